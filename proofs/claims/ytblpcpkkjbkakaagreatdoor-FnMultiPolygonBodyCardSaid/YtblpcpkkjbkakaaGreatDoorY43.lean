/- Lemmas towards the seat's laws: 2 texts joined. -/
import Derived.Test.YtblpcpkkjbkakaaGreatDoorY42
/- The plain law of a body at the beginning of a text: its tokens joined are its tokens again; what is read of it is what is read of the whole. -/
namespace Go.Proofs.YtblpcpkkjbkakaaGreatDoor
open Go Go.RowKit
set_option linter.unusedVariables false
set_option linter.unusedSimpArgs false

theorem digs_app (r : List UInt8) : ∀ l : List UInt8, digs (l ++ 32 :: r) = digs l
  | [] => rfl
  | c :: l => by simp only [List.cons_append, digs, digs_app r l]
theorem lets_app (r : List UInt8) : ∀ l : List UInt8, lets (l ++ 32 :: r) = lets l
  | [] => rfl
  | c :: l => by simp only [List.cons_append, lets, lets_app r l]
theorem get_app (l r : List UInt8) (i : Nat) (c : UInt8) (hc : c ≠ 32) (hi : i ≤ l.length) : (l ++ 32 :: r)[i]? = some c ↔ l[i]? = some c := by
  rcases Nat.lt_or_ge i l.length with h | h
  · rw [List.getElem?_append_left h]
  · have e : i = l.length := by omega
    subst e
    rw [List.getElem?_append_right (Nat.le_refl _), Nat.sub_self]
    simp
    exact fun h => hc h.symm
theorem dexp_app (l r : List UInt8) (n : Nat) (hn : n ≤ l.length) : dexp (l ++ 32 :: r) n = dexp l n := by
  have a1 := get_app l r n 101 (by decide) hn
  have a2 := get_app l r n 69 (by decide) hn
  unfold dexp
  by_cases he : l[n]? = some 101 ∨ l[n]? = some 69
  · have hlt : n < l.length := by rcases he with h | h <;> exact lt_of_get h
    have b1 := get_app l r (n + 1) 43 (by decide) hlt
    have b2 := get_app l r (n + 1) 45 (by decide) hlt
    rw [if_pos he, if_pos (by rw [a1, a2]; exact he)]
    dsimp only
    by_cases hs : l[n + 1]? = some 43 ∨ l[n + 1]? = some 45
    · have hlt2 : n + 1 < l.length := by rcases hs with h | h <;> exact lt_of_get h
      rw [if_pos hs, if_pos (show (l ++ 32 :: r)[n + 1]? = some 43 ∨ (l ++ 32 :: r)[n + 1]? = some 45 by rw [b1, b2]; exact hs), List.drop_append_of_le_length (show n + 2 ≤ l.length by omega), digs_app]
    · rw [if_neg hs, if_neg (show ¬ ((l ++ 32 :: r)[n + 1]? = some 43 ∨ (l ++ 32 :: r)[n + 1]? = some 45) by rw [b1, b2]; exact hs), List.drop_append_of_le_length (show n + 1 ≤ l.length by omega), digs_app]
  · rw [if_neg he, if_neg (by rw [a1, a2]; exact he)]
theorem decm_app (l r : List UInt8) : decm (l ++ 32 :: r) = decm l := by
  have hdl := digs_le l
  have a1 := get_app l r (digs l) 46 (by decide) hdl
  unfold decm
  dsimp only
  rw [digs_app]
  by_cases hd : l[digs l]? = some 46
  · have hlt := lt_of_get hd
    have hm := digs_le (l.drop (digs l + 1))
    simp at hm
    rw [if_pos hd, if_pos (a1.2 hd), List.drop_append_of_le_length (show digs l + 1 ≤ l.length by omega), digs_app]
    split
    · rfl
    · exact dexp_app l r _ (by omega)
  · rw [if_neg hd, if_neg (fun h => hd (a1.1 h))]
    split
    · rfl
    · exact dexp_app l r _ hdl
/-- A token with a blank behind it. -/
theorem toks_tok (t : Tok) (r : List UInt8) (h : TokOk t) : toks false (t.2 ++ 32 :: r) = (toks false r).map (t :: ·) := by
  obtain ⟨k, x⟩ := t
  rcases h with ⟨h1, h2, h3⟩ | ⟨h1, h2, h3⟩ | ⟨h1, h2⟩
  · dsimp only at h1 h2 h3 ⊢
    subst h1
    cases x with
    | nil => exact absurd rfl h2
    | cons c x =>
      have hl : isLet c = true := lets_let (c :: x) 0 c (by rw [h3]; simp) rfl
      have hn := (isLet_iff c).1 hl
      have hb : isBlank c = false := by
        cases hb : isBlank c with
        | false => rfl
        | true => rw [isBlank_iff] at hb; omega
      have hs : isSign c = false := by
        cases hs : isSign c with
        | false => rfl
        | true => rw [isSign_iff] at hs; omega
      have e := lets_app r (c :: x)
      rw [List.cons_append] at e ⊢
      rw [toks_word false c _ hb hs hl, e, h3, if_neg (by decide)]
      have d1 : (c :: (x ++ 32 :: r)).drop (c :: x).length = 32 :: r := by rw [← List.cons_append, List.drop_left]
      have d2 : (c :: (x ++ 32 :: r)).take (c :: x).length = c :: x := by rw [← List.cons_append, List.take_left]
      rw [d1, d2, toks_blank true 32 r (by decide)]
  · dsimp only at h1 h2 h3 ⊢
    subst h1
    have hch := decm_chars x h3 h2
    obtain ⟨n1, p1, p2, p3, p4⟩ := decm_parts x h3 h2
    cases x with
    | nil => exact absurd rfl h2
    | cons c x =>
      have hc : isDig c = true ∨ c = 46 := by
        obtain ⟨c', e, h⟩ := p4 0 p1
        simp only [List.getElem?_cons_zero, Option.some.injEq] at e
        rw [e]; exact h
      have hn : (48 : Int) ≤ (c.toNat : Int) ∧ (c.toNat : Int) ≤ 57 ∨ (c.toNat : Int) = 46 := by
        rcases hc with h | h
        · exact .inl ((isDig_iff c).1 h)
        · exact .inr (by rw [h]; rfl)
      have hb : isBlank c = false := by
        cases hb : isBlank c with
        | false => rfl
        | true => rw [isBlank_iff] at hb; omega
      have hs : isSign c = false := by
        cases hs : isSign c with
        | false => rfl
        | true => rw [isSign_iff] at hs; omega
      have hl : isLet c = false := by
        cases hl : isLet c with
        | false => rfl
        | true => rw [isLet_iff] at hl; omega
      have e := decm_app (c :: x) r
      rw [List.cons_append] at e ⊢
      rw [toks_num false c _ hb hs hl, e, h3, if_neg (by simp)]
      have d1 : (c :: (x ++ 32 :: r)).drop (c :: x).length = 32 :: r := by rw [← List.cons_append, List.drop_left]
      have d2 : (c :: (x ++ 32 :: r)).take (c :: x).length = c :: x := by rw [← List.cons_append, List.take_left]
      rw [d1, d2, toks_blank true 32 r (by decide)]
  · dsimp only at h1 h2 ⊢
    subst h2
    have hn := (isSign_iff k).1 h1
    have hb : isBlank k = false := by
      cases hb : isBlank k with
      | false => rfl
      | true => rw [isBlank_iff] at hb; omega
    rw [List.singleton_append, toks_sign false k _ hb h1, if_neg (by simp), toks_blank false 32 r (by decide)]
/-- Tokens joined, a blank behind each. -/
def joinT (T : List Tok) : List UInt8 := T.flatMap fun t => t.2 ++ [32]
theorem joinT_cons (t : Tok) (T : List Tok) : joinT (t :: T) = t.2 ++ 32 :: joinT T := by simp [joinT]
theorem joinT_app (T U : List Tok) : joinT (T ++ U) = joinT T ++ joinT U := by simp [joinT]
theorem toks_join : ∀ T : List Tok, (∀ t ∈ T, TokOk t) → toks false (joinT T) = some T
  | [], _ => rfl
  | t :: T, h => by rw [joinT_cons, toks_tok t _ (h t (List.mem_cons_self ..)), toks_join T (fun u hu => h u (List.mem_cons_of_mem _ hu))]; rfl
/-- What stands between the name and the body. -/
def xTagL : Nat → List UInt8
  | 1 => [32, 90, 32]
  | 2 => [32, 77, 32]
  | 3 => [32, 90, 77, 32]
  | _ => []
theorem toks_text (d : Nat) (hd : d < 4) (P : List Tok) (h : ∀ t ∈ P, TokOk t) : toks false (mpW ++ xTagL d ++ [32] ++ joinT P) = some ((97, mpW) :: (tagT d ++ P)) := by
  have hm : TokOk (97, mpW) := .inl ⟨rfl, by decide, by decide⟩
  have hj := toks_join P h
  have hb : toks false (32 :: joinT P) = some P := by rw [toks_blank false 32 _ (by decide), hj]
  obtain rfl | rfl | rfl | rfl : d = 0 ∨ d = 1 ∨ d = 2 ∨ d = 3 := by omega
  · have e := toks_tok (97, mpW) (joinT P) hm
    rw [hj] at e
    simpa [xTagL, tagT] using e
  · have e := toks_tok (97, mpW) ([90] ++ 32 :: 32 :: joinT P) hm
    have e2 := toks_tok (97, [90]) (32 :: joinT P) (.inl ⟨rfl, by decide, by decide⟩)
    dsimp only at e e2
    rw [e2, hb] at e
    simpa [xTagL, tagT] using e
  · have e := toks_tok (97, mpW) ([77] ++ 32 :: 32 :: joinT P) hm
    have e2 := toks_tok (97, [77]) (32 :: joinT P) (.inl ⟨rfl, by decide, by decide⟩)
    dsimp only at e e2
    rw [e2, hb] at e
    simpa [xTagL, tagT] using e
  · have e := toks_tok (97, mpW) ([90, 77] ++ 32 :: 32 :: joinT P) hm
    have e2 := toks_tok (97, [90, 77]) (32 :: joinT P) (.inl ⟨rfl, by decide, by decide⟩)
    dsimp only at e e2
    rw [e2, hb] at e
    simpa [xTagL, tagT] using e

/-- How deep a token goes. -/
def dl (t : Tok) : Int := if t.2 = [40] then 1 else if t.2 = [41] then -1 else 0
def dep : List Tok → Int
  | [] => 0
  | t :: T => dl t + dep T
theorem dep_app (T U : List Tok) : dep (T ++ U) = dep T + dep U := by
  induction T with
  | nil => simp [dep]
  | cons t T ih => simp only [List.cons_append, dep, ih]; omega
/-- Parentheses in order, none open at the end. -/
def Flat (P : List Tok) : Prop := dep P = 0 ∧ ∀ n, 0 ≤ dep (P.take n)
theorem Flat.nil : Flat [] := ⟨rfl, fun n => by simp [dep]⟩
theorem Flat.app {P Q : List Tok} (h : Flat P) (k : Flat Q) : Flat (P ++ Q) := by
  refine ⟨by rw [dep_app, h.1, k.1]; rfl, fun n => ?_⟩
  rw [List.take_append, dep_app]
  have h1 := h.2 n
  have h2 := k.2 (n - P.length)
  omega
theorem Flat.one {t : Tok} (h : dl t = 0) : Flat [t] := by
  refine ⟨by simp [dep, h], fun n => ?_⟩
  cases n with
  | zero => simp [dep]
  | succ n => simp [dep, h]
theorem Flat.wrap {l r : Tok} {M : List Tok} (hl : l.2 = [40]) (hr : r.2 = [41]) (h : Flat M) : Flat (l :: (M ++ [r])) := by
  have e1 : dl l = 1 := by unfold dl; rw [if_pos hl]
  have e2 : dl r = -1 := by unfold dl; rw [hr]; rfl
  refine ⟨?_, fun n => ?_⟩
  · have := h.1
    simp only [dep, dep_app, e1, e2]; omega
  · cases n with
    | zero => simp [dep]
    | succ n =>
      rw [List.take_succ_cons, List.take_append]
      simp only [dep, dep_app, e1]
      have h1 := h.2 n
      have h2 : -1 ≤ dep ([r].take (n - M.length)) := by
        cases n - M.length with
        | zero => simp [dep]
        | succ k => simp [dep, e2]
      omega
/-- The body at the beginning: its tokens, and whether it is one. -/
def pbF : Bool → Int → List Tok → Option (List Tok × Bool)
  | _, _, [] => none
  | first, k, t :: T => if k + dl t = 0 then some ([t], !first || t.2 == emptyW) else (pbF false (k + dl t) T).map fun y => (t :: y.1, y.2)
theorem pbF_pre : ∀ (T : List Tok) (b : Bool) (k : Int) (P : List Tok) (x : Bool), pbF b k T = some (P, x) → ∃ R, T = P ++ R
  | [], b, k, P, x, h => by cases h
  | t :: T, b, k, P, x, h => by
    unfold pbF at h
    split at h
    · cases h; exact ⟨T, rfl⟩
    · obtain ⟨y, h1, h2⟩ := Option.map_eq_some_iff.1 h
      cases h2
      obtain ⟨R, hR⟩ := pbF_pre T _ _ _ _ h1
      exact ⟨R, by rw [hR]; rfl⟩
theorem pbF_cons (b : Bool) (k : Int) (t : Tok) (T : List Tok) : pbF b k (t :: T) = if k + dl t = 0 then some ([t], !b || t.2 == emptyW) else (pbF false (k + dl t) T).map fun y => (t :: y.1, y.2) := rfl
/-- Its first token is EMPTY or a parenthesis. -/
theorem pbF_head {T P : List Tok} (h : pbF true 0 T = some (P, true)) : ∃ t P', P = t :: P' ∧ (t.2 = emptyW ∨ t.2 = [40] ∨ t.2 = [41]) := by
  cases T with
  | nil => cases h
  | cons t T =>
    rw [pbF_cons] at h
    by_cases h1 : (0 : Int) + dl t = 0
    · rw [if_pos h1] at h
      obtain ⟨hP, hb⟩ := Prod.mk.inj (Option.some.inj h)
      refine ⟨t, [], hP.symm, .inl ?_⟩
      simpa using hb
    · rw [if_neg h1] at h
      obtain ⟨y, h2, h3⟩ := Option.map_eq_some_iff.1 h
      obtain ⟨hP, hb⟩ := Prod.mk.inj h3
      refine ⟨t, y.1, hP.symm, ?_⟩
      unfold dl at h1
      by_cases e : t.2 = [40]
      · exact .inr (.inl e)
      · rw [if_neg e] at h1
        by_cases e2 : t.2 = [41]
        · exact .inr (.inr e2)
        · rw [if_neg e2] at h1; exact absurd rfl h1
theorem pbF_in : ∀ (M : List Tok) (k : Int) (r : Tok) (R : List Tok), (∀ n, 0 < k + dep (M.take n)) → k + dep M = 1 → r.2 = [41] → pbF false k (M ++ r :: R) = some (M ++ [r], true)
  | [], k, r, R, h, h1, hr => by
    have e2 : dl r = -1 := by unfold dl; rw [hr]; rfl
    simp only [dep] at h1
    rw [List.nil_append, pbF_cons, if_pos (by omega)]
    simp
  | t :: M, k, r, R, h, h1, hr => by
    have h0 := h 1
    simp only [List.take_succ_cons, List.take_zero, dep] at h0
    simp only [dep] at h1
    have hn : ∀ n, 0 < k + dl t + dep (M.take n) := fun n => by
      have := h (n + 1)
      simp only [List.take_succ_cons, dep] at this
      omega
    rw [List.cons_append, pbF_cons, if_neg (by omega), pbF_in M (k + dl t) r R hn (by omega) hr]
    rfl
/-- EMPTY, or parentheses around what is flat. -/
def Bal (P : List Tok) : Prop := (∃ t, P = [t] ∧ t.2 = emptyW) ∨ ∃ l M r, P = l :: (M ++ [r]) ∧ l.2 = [40] ∧ r.2 = [41] ∧ Flat M
theorem dl_empty {t : Tok} (h : t.2 = emptyW) : dl t = 0 := by unfold dl; rw [h]; rfl
theorem Bal.flat {P : List Tok} (h : Bal P) : Flat P := by
  rcases h with ⟨t, rfl, h⟩ | ⟨l, M, r, rfl, hl, hr, hM⟩
  · exact Flat.one (dl_empty h)
  · exact Flat.wrap hl hr hM
theorem Bal.pb {P : List Tok} (h : Bal P) (R : List Tok) : pbF true 0 (P ++ R) = some (P, true) := by
  rcases h with ⟨t, rfl, h⟩ | ⟨l, M, r, rfl, hl, hr, hM⟩
  · rw [List.singleton_append, pbF_cons, dl_empty h, if_pos (show (0 : Int) + 0 = 0 from rfl), h]
    rfl
  · have e1 : dl l = 1 := by unfold dl; rw [if_pos hl]
    rw [List.cons_append, List.append_assoc, List.singleton_append, pbF_cons, e1, if_neg (by omega), pbF_in M _ r R (fun n => by have := hM.2 n; omega) (by have := hM.1; omega) hr]
    rfl
/-- A reading that looks at what it takes alone. -/
def Loc {α : Type} (f : List Tok → Option (α × List Tok)) (A : List Tok → Prop) : Prop :=
  ∀ T x T', (∀ t ∈ T, TokOk t) → f T = some (x, T') → ∃ P, T = P ++ T' ∧ A P ∧ ∀ R, f (P ++ R) = some (x, R)
theorem tok_sign {t : Tok} {c : UInt8} (h : TokOk t) (hc : t.1 = c) (h97 : c ≠ 97) (h49 : c ≠ 49) : t.2 = [c] := by
  rcases h with ⟨h1, -⟩ | ⟨h1, -⟩ | ⟨h1, h2⟩
  · exact absurd (hc.symm.trans h1) h97
  · exact absurd (hc.symm.trans h1) h49
  · rw [h2, hc]
theorem dl_num {t : Tok} (h : TokOk t) (h49 : t.1 = 49) : dl t = 0 := by
  rcases h with ⟨h1, -⟩ | ⟨h1, h2, h3⟩ | ⟨h1, -⟩
  · rw [h49] at h1; exact absurd h1 (by decide)
  · unfold dl
    rw [if_neg (fun e => by rw [e] at h3; exact absurd h3 (by decide)), if_neg (fun e => by rw [e] at h3; exact absurd h3 (by decide))]
  · rw [h49] at h1; exact absurd h1 (by decide)
theorem numT_loc (neg : Bool) : Loc (numT neg) Flat := by
  intro T x T' hok h
  cases T with
  | nil => cases h
  | cons t T =>
    rw [numT_cons] at h
    split at h
    · rename_i hc
      cases h
      exact ⟨[t], rfl, Flat.one (dl_num (hok t (List.mem_cons_self ..)) hc.1), fun R => by rw [List.singleton_append, numT_cons, if_pos hc]⟩
    · cases h
theorem numX_loc : Loc numX Flat := by
  intro T x T' hok h
  cases T with
  | nil => cases h
  | cons t T =>
    rw [numX_cons] at h
    by_cases h45 : t.2 = [45]
    · rw [if_pos h45] at h
      obtain ⟨P, h1, h2, h3⟩ := numT_loc true T x T' (fun u hu => hok u (List.mem_cons_of_mem _ hu)) h
      refine ⟨t :: P, by rw [h1]; rfl, Flat.app (P := [t]) (Flat.one (by unfold dl; rw [h45]; rfl)) h2, fun R => ?_⟩
      rw [List.cons_append, numX_cons, if_pos h45]
      exact h3 R
    · rw [if_neg h45] at h
      obtain ⟨P, h1, h2, h3⟩ := numT_loc false (t :: T) x T' hok h
      refine ⟨P, h1, h2, fun R => ?_⟩
      cases P with
      | nil => have := h3 []; cases this
      | cons u P =>
        rw [List.cons_append] at h1
        cases h1
        rw [List.cons_append, numX_cons, if_neg h45]
        exact h3 R
theorem plS_loc : ∀ n, Loc (plS n) Flat
  | 0 => fun T x T' hok h => by cases h; exact ⟨[], rfl, Flat.nil, fun R => rfl⟩
  | n + 1 => fun T x T' hok h => by
    unfold plS at h
    cases h1 : plS n T with
    | none => rw [h1] at h; cases h
    | some y =>
      obtain ⟨xs, T1⟩ := y
      rw [h1] at h
      simp only [] at h
      obtain ⟨P, e1, f1, g1⟩ := plS_loc n T xs T1 hok h1
      cases h2 : numX T1 with
      | none => rw [h2] at h; cases h
      | some z =>
        obtain ⟨a, T2⟩ := z
        rw [h2] at h
        cases h
        obtain ⟨Q, e2, f2, g2⟩ := numX_loc T1 a T' (fun u hu => hok u (by rw [e1]; exact List.mem_append_right _ hu)) h2
        refine ⟨P ++ Q, by rw [e1, e2, List.append_assoc], f1.app f2, fun R => ?_⟩
        unfold plS
        rw [List.append_assoc, g1 (Q ++ R)]
        simp only [g2 R]
theorem mny_loc {α : Type} {f : List Tok → Option (α × List Tok)} (hf : Loc f Flat) : ∀ (n : Nat) (T : List Tok) (l : List α) (T' : List Tok), (∀ t ∈ T, TokOk t) → mny f n T = some (l, T') →
    ∃ M r, T = M ++ r :: T' ∧ Flat M ∧ r.2 = [41] ∧ ∀ R k, (M ++ r :: R).length ≤ k → mny f k (M ++ r :: R) = some (l, R)
  | 0, T, l, T', hok, h => by cases h
  | n + 1, T, l, T', hok, h => by
    unfold mny at h
    cases h1 : f T with
    | none => rw [h1] at h; cases h
    | some y =>
      obtain ⟨x, T1⟩ := y
      rw [h1] at h
      simp only [] at h
      obtain ⟨P, e1, f1, g1⟩ := hf T x T1 hok h1
      cases T1 with
      | nil => cases h
      | cons t T2 =>
        have hokt : TokOk t := hok t (by rw [e1]; simp)
        have hok2 : ∀ u ∈ T2, TokOk u := fun u hu => hok u (by rw [e1]; simp [hu])
        simp only [] at h
        by_cases h41 : t.1 = 41
        · rw [if_pos h41] at h
          cases h
          refine ⟨P, t, e1, f1, tok_sign hokt h41 (by decide) (by decide), fun R k hk => ?_⟩
          cases k with
          | zero => simp at hk
          | succ k =>
            unfold mny
            rw [g1 (t :: R)]
            simp only []
            rw [if_pos h41]
        · rw [if_neg h41] at h
          by_cases h44 : t.1 = 44
          · rw [if_pos h44] at h
            obtain ⟨z, h2, h3⟩ := Option.map_eq_some_iff.1 h
            obtain ⟨l2, T3⟩ := z
            cases h3
            obtain ⟨M, r, e2, f2, hr, g2⟩ := mny_loc hf n T2 l2 T3 hok2 h2
            have hc := tok_sign hokt h44 (by decide) (by decide)
            refine ⟨P ++ t :: M, r, by rw [e1, e2]; simp, f1.app (Flat.app (P := [t]) (Flat.one (by unfold dl; rw [hc]; rfl)) f2), hr, fun R k hk => ?_⟩
            cases k with
            | zero => simp at hk
            | succ k =>
              unfold mny
              rw [List.append_assoc, List.cons_append, g1 (t :: (M ++ r :: R))]
              simp only []
              rw [if_neg h41, if_pos h44, g2 R k (by simp at hk ⊢; omega)]
              rfl
          · rw [if_neg h44] at h; cases h
theorem bodyP_loc {α : Type} {f : List Tok → Option (α × List Tok)} (hf : Loc f Flat) : Loc (bodyP f) Bal := by
  intro T l T' hok h
  cases T with
  | nil => cases h
  | cons t T =>
    rw [bodyP_cons] at h
    by_cases he : t.1 = 97 ∧ t.2 = emptyW
    · rw [if_pos he] at h
      cases h
      exact ⟨[t], rfl, .inl ⟨t, rfl, he.2⟩, fun R => by rw [List.singleton_append, bodyP_cons, if_pos he]⟩
    · rw [if_neg he] at h
      by_cases h40 : t.1 = 40
      · rw [if_pos h40] at h
        obtain ⟨M, r, e, f1, hr, g⟩ := mny_loc hf _ T l T' (fun u hu => hok u (List.mem_cons_of_mem _ hu)) h
        refine ⟨t :: (M ++ [r]), by rw [e]; simp, .inr ⟨t, M, r, rfl, tok_sign (hok t (List.mem_cons_self ..)) h40 (by decide) (by decide), hr, f1⟩, fun R => ?_⟩
        rw [List.cons_append, List.append_assoc, List.singleton_append, bodyP_cons, if_neg he, if_pos h40]
        exact g R _ (Nat.le_refl _)
      · rw [if_neg h40] at h; cases h
theorem Loc.flat {α : Type} {f : List Tok → Option (α × List Tok)} (h : Loc f Bal) : Loc f Flat := fun T x T' hok hx => by
  obtain ⟨P, h1, h2, h3⟩ := h T x T' hok hx
  exact ⟨P, h1, h2.flat, h3⟩
theorem lineP_loc (d : Nat) : Loc (lineP d) Bal := by
  intro T x T' hok h
  obtain ⟨y, h1, h2⟩ := Option.map_eq_some_iff.1 h
  obtain ⟨l, T1⟩ := y
  cases h2
  obtain ⟨P, e, b, g⟩ := bodyP_loc (plS_loc (wid d)) T l T1 hok h1
  exact ⟨P, e, b, fun R => by unfold lineP; rw [g R]; rfl⟩
theorem polyP_loc (d : Nat) : Loc (polyP d) Bal := bodyP_loc (lineP_loc d).flat
theorem mpolyP_loc (d : Nat) : Loc (mpolyP d) Bal := bodyP_loc (polyP_loc d).flat
/-- The body is read off the whole as off itself. -/
theorem body_law (d : Nat) (T P : List Tok) (b : Bool) (hok : ∀ t ∈ T, TokOk t) (hp : pbF true 0 T = some (P, b)) :
    (b = false → mpolyP d T = none) ∧ (b = true → ∀ x, (mpolyP d P = some (x, []) ↔ ∃ R, mpolyP d T = some (x, R))) := by
  have key : ∀ x R, mpolyP d T = some (x, R) → b = true ∧ mpolyP d P = some (x, []) := by
    intro x R h
    obtain ⟨Q, e, hb, g⟩ := mpolyP_loc d T x R hok h
    have h1 := hb.pb R
    rw [← e, hp] at h1
    cases h1
    exact ⟨rfl, by have := g []; rwa [List.append_nil] at this⟩
  constructor
  · intro hb
    cases hm : mpolyP d T with
    | none => rfl
    | some y =>
      have := (key y.1 y.2 hm).1
      rw [hb] at this; cases this
  · intro hb x
    constructor
    · intro h
      obtain ⟨R, e⟩ := pbF_pre T _ _ _ _ hp
      obtain ⟨Q, e2, -, g⟩ := mpolyP_loc d P x [] (fun t ht => hok t (by rw [e]; exact List.mem_append_left _ ht)) h
      rw [List.append_nil] at e2
      subst e2
      exact ⟨R, by rw [e]; exact g R⟩
    · rintro ⟨R, h⟩
      exact (key x R h).2
theorem body_law_none (d : Nat) (T : List Tok) (hok : ∀ t ∈ T, TokOk t) (hp : pbF true 0 T = none) : mpolyP d T = none := by
  cases hm : mpolyP d T with
  | none => rfl
  | some y =>
    obtain ⟨Q, e, hb, g⟩ := mpolyP_loc d T y.1 y.2 hok hm
    have h1 := hb.pb y.2
    rw [← e, hp] at h1
    cases h1
end Go.Proofs.YtblpcpkkjbkakaaGreatDoor
/- The body at the beginning of a list of tokens: the law's own function. -/
namespace Go.Proofs.YtblpcpkkjbkakaaGreatDoor
open Go Go.RowKit
set_option linter.unusedVariables false
set_option linter.unusedSimpArgs false
theorem joinT_take (T : List Tok) (n : Nat) : (joinT (T.take n)).length ≤ (joinT T).length := by
  conv => rhs; rw [← List.take_append_drop n T, joinT_app]
  rw [List.length_append]; omega
theorem ba_app (l m : List UInt8) : (⟨l.toArray⟩ : ByteArray) ++ ⟨m.toArray⟩ = ⟨(l ++ m).toArray⟩ := by
  apply ByteArray.ext
  simp [ByteArray.data_append]
/-- The outcome: the body's tokens joined, and whether it is one. -/
def PbPost (T : List Tok) (w : World) (e : Ending) (w' : World) : Prop :=
  w = w' ∧ ∃ x b, e = .returned (.tuple #[.string x, .bool b]) ∧ match pbF true 0 T with
    | none => b = false
    | some (P, b') => b = b' ∧ x = ⟨(joinT P).toArray⟩
/-- The loop's state. -/
def PbSt (T : List Tok) (n : Nat) (k : Int) : Prop := pbF true 0 T = (pbF (n == 0) k (T.drop n)).map (fun y => (T.take n ++ y.1, y.2))
set_option maxRecDepth 100000 in
set_option maxHeartbeats 4000000 in
theorem pBody_any (v : Value) (T : List Tok) (w : World) (h : SL w v T) (hT : T.length ≤ 100000) (hj : (joinT T).length ≤ 100000) : Calls Tryz.prog 15 #[v] w (PbPost T w) := by
  obtain ⟨a, c, rfl, h1, h2, h3⟩ := h
  have H3 := Lib.hid (And.intro h3 hj); clear h3 hj
  go_enter Tryz.func15, Tryz.ntmps15
  go_wp2_with fail
  go_loopw [2, 4, 9] (fun x k i wr => ∃ (n : Nat) (K : Int) (A : ByteArray), n ≤ T.length ∧ x = .string A ∧ k = .int .i64 K ∧ i = .int .i64 n ∧ -(n : Int) ≤ K ∧ K ≤ n ∧ RowKit.Hid (A = ⟨(joinT (T.take n)).toArray⟩ ∧ PbSt T n K) ∧ wr = w) (fun _ _ i _ => T.length - (intOf i).toNat)
  case atStart => exact ⟨0, 0, ⟨#[]⟩, Nat.zero_le _, rfl, rfl, rfl, by simp, by simp, Lib.hid ⟨rfl, by unfold PbSt; simp⟩, rfl⟩
  case round =>
    obtain ⟨n, K, A, hn, rfl, rfl, rfl, hk1, hk2, hS, rfl⟩ := hrel
    by_cases hlt : n < T.length
    · obtain ⟨q, o, rfl, hq, hc⟩ := H3.out.1 (by omega)
      obtain ⟨t, ht⟩ : ∃ t, T[n]? = some t := ⟨T[n], List.getElem?_eq_getElem hlt⟩
      have c0 := hc n t ht
      have hjt := joinT_take T n
      have hjt1 := joinT_take T (n + 1)
      have htk : T.take (n + 1) = T.take n ++ [t] := by rw [List.take_add_one, ht]; rfl
      have hsz : A.size = (joinT (T.take n)).length := by rw [hS.out.1]; simp [ByteArray.size]
      have hjl : (joinT (T.take (n + 1))).length = A.size + t.2.length + 1 := by rw [htk, joinT_app, hsz, List.length_append, joinT_cons, List.length_append]; simp [joinT]; omega
      have hstr : A ++ ((⟨t.2.toArray⟩ : ByteArray) ++ ⟨#[32]⟩) = ⟨(joinT (T.take (n + 1))).toArray⟩ := by
        rw [hS.out.1, show (⟨#[32]⟩ : ByteArray) = ⟨[32].toArray⟩ from rfl, ba_app, ba_app, htk, joinT_app]
        simp [joinT]
      have hA : A.size + t.2.length + 1 ≤ 100000 := by have := H3.out.2; omega
      have a0 : ¬ (9223372036854775807 : Int) < (t.2.length : Int) + 1 := by omega
      have a1 : ¬ 9223372036854775807 < t.2.length + 1 := by omega
      have a2 : ¬ 9223372036854775807 < A.size + (t.2.length + 1) := by omega
      have HT := Lib.hid (And.intro ht (And.intro htk hstr))
      clear hc hjt hjt1 htk hsz hjl ht hstr
      go_upto_block 2 with fail
      obtain ⟨K', hK'⟩ : ∃ K', K' = K + dl t := ⟨_, rfl⟩
      have hd1 : -1 ≤ dl t ∧ dl t ≤ 1 := by unfold dl; split; omega; split <;> omega
      have hkk : -((n : Int) + 1) ≤ K' ∧ K' ≤ (n : Int) + 1 := by omega
      have hnx : pbF true 0 T = if K' = 0 then some (T.take n ++ [t], !(n == 0) || t.2 == emptyW) else (pbF false K' (T.drop (n + 1))).map fun y => (T.take n ++ [t] ++ y.1, y.2) := by
        have h := hS.out.2
        unfold PbSt at h
        have hdr : T.drop n = t :: T.drop (n + 1) := by
          have := List.drop_eq_getElem_cons hlt
          have e : T[n] = t := by have := HT.out.1; rw [List.getElem?_eq_getElem hlt] at this; exact Option.some.inj this
          rw [this, e]
        rw [h, hdr]
        conv => lhs; unfold pbF
        rw [← hK']
        split
        · rfl
        · rw [Option.map_map]
          congr 1
          funext y
          simp [Function.comp]
      have HNX := Lib.hid (And.intro hnx hkk)
      clear hnx hkk hd1
      go_cut [4] (fun k' wx => k' = .int .i64 K' ∧ wx = wr)
      case first =>
        by_cases h40 : t.2 = [40]
        · have hb : (t.2 == [40]) = true := by rw [h40]; rfl
          have e1 : dl t = 1 := by unfold dl; rw [if_pos h40]
          rw [e1] at hK'
          subst hK'
          clear h40 e1
          go_wp2_with fail
          go_meet
          case rel => exact ⟨rfl, rfl⟩
        · have hb : (t.2 == [40]) = false := by rw [beq_eq_false_iff_ne]; exact h40
          by_cases h41 : t.2 = [41]
          · have hb2 : (t.2 == [41]) = true := by rw [h41]; rfl
            have e1 : dl t = -1 := by unfold dl; rw [if_neg h40, if_pos h41]
            rw [e1] at hK'
            have hK2 : K - 1 = K' := by omega
            have HK := Lib.hid hK2
            clear h40 h41 e1 hK' hK2
            go_wp2_with fail
            go_meet
            case rel => exact ⟨by rw [← HK.out], rfl⟩
          · have hb2 : (t.2 == [41]) = false := by rw [beq_eq_false_iff_ne]; exact h41
            have e1 : dl t = 0 := by unfold dl; rw [if_neg h40, if_neg h41]
            rw [e1, Int.add_zero] at hK'
            have HK := Lib.hid hK'
            clear h40 h41 e1 hK'
            go_wp2_with fail
            go_meet
            case rel => exact ⟨by rw [HK.out], rfl⟩
      case rest =>
        obtain ⟨rfl, rfl⟩ := hcut
        clear hK'
        by_cases h0 : K' = 0
        · subst h0
          by_cases hn0 : n = 0
          · subst hn0
            obtain ⟨bb, hbb⟩ : ∃ bb, (t.2 == [69, 77, 80, 84, 89]) = bb := ⟨_, rfl⟩
            go_wp2_with fail
            have HBB := Lib.hid hbb; clear hbb
            go_ret2
            refine ⟨rfl, _, _, rfl, ?_⟩
            have h := HNX.out.1
            rw [if_pos (by first | trivial | rfl)] at h
            rw [h]
            exact ⟨HBB.out.symm, by rw [HT.out.2.2, HT.out.2.1]⟩
          · have hn1 : (0 : Int) < (n : Int) := by omega
            go_wp2_with fail
            go_ret2
            refine ⟨rfl, _, _, rfl, ?_⟩
            have h := HNX.out.1
            rw [if_pos (by first | trivial | rfl)] at h
            rw [h]
            refine ⟨?_, by rw [HT.out.2.2, HT.out.2.1]⟩
            have hn9 : (n == 0) = false := beq_false_of_ne hn0
            rw [hn9]; rfl
        · have hb : (K' == 0) = false := beq_false_of_ne h0
          go_wp2_with fail
          go_roundw
          case rel => 
            have h := HNX.out.1
            rw [if_neg h0] at h
            have h9 := HNX.out.2
            refine ⟨n + 1, K', _, by omega, rfl, rfl, by go_num, by omega, by omega, Lib.hid ⟨HT.out.2.2, ?_⟩, by first | rfl | trivial⟩
            unfold PbSt
            rw [h, HT.out.2.1]; rfl
          case measure => simp [intOf]; omega
    · go_wp2_with fail
      go_ret2
      refine ⟨rfl, _, _, rfl, ?_⟩
      have h := hS.out.2
      unfold PbSt at h
      rw [List.drop_eq_nil_of_le (by omega)] at h
      rw [h]
      rfl
end Go.Proofs.YtblpcpkkjbkakaaGreatDoor
