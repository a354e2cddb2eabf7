/- Lemmas towards the seat's laws: 1 texts joined. -/
import Derived.Test.YtblpcpkkjbkakaaGreatDoorY16
/- The plain law of a decimal's reading: mantissa, exponent, what was cut. -/
namespace Go.Proofs.YtblpcpkkjbkakaaGreatDoor
open Go Go.RowKit
set_option linter.unusedVariables false
set_option linter.unusedSimpArgs false

/-- The reading's state: digits seen, digits taken, the point's place, the mantissa, whether something was cut, a point seen, a digit seen. -/
structure RS where
  nd : Nat
  ndm : Nat
  dp : Int
  man : Nat
  tr : Bool
  sd : Bool
  sg : Bool
def RS.init : RS := ⟨0, 0, 0, 0, false, false, false⟩
def RS.step (s : RS) (c : UInt8) : RS :=
  if c = 46 then { s with sd := true, dp := s.nd }
  else if c = 48 ∧ s.nd = 0 then { s with dp := s.dp - 1, sg := true }
  else if s.ndm < 19 then { s with nd := s.nd + 1, man := s.man * 10 + (c.toNat - 48), ndm := s.ndm + 1, sg := true }
  else { s with nd := s.nd + 1, tr := s.tr || c != 48, sg := true }
def RS.run (l : List UInt8) (k : Nat) : RS := (l.take k).foldl RS.step RS.init
theorem RS.run_succ (l : List UInt8) (k : Nat) (c : UInt8) (h : l[k]? = some c) : RS.run l (k + 1) = (RS.run l k).step c := by
  unfold RS.run
  rw [List.take_add_one, h]
  simp [List.foldl_append]

structure RS.Ok (s : RS) (k : Nat) : Prop where
  hnd : s.nd ≤ k
  hndm : s.ndm ≤ 19
  hdp : -(k : Int) ≤ s.dp ∧ s.dp ≤ k
  hman : s.man < 10 ^ s.ndm
theorem RS.Ok.man_lt {s : RS} {k : Nat} (h : s.Ok k) : s.man < 10000000000000000000 := by
  have h1 := h.hman
  have h2 : 10 ^ s.ndm ≤ 10 ^ 19 := Nat.pow_le_pow_right (by decide) h.hndm
  omega
theorem RS.ok_step {s : RS} {k : Nat} (h : s.Ok k) (c : UInt8) (hc : c = 46 ∨ isDig c = true) : (s.step c).Ok (k + 1) := by
  obtain ⟨h1, h2, ⟨h3, h4⟩, h5⟩ := h
  unfold RS.step
  by_cases h46 : c = 46
  · rw [if_pos h46]
    exact ⟨by dsimp only; omega, h2, ⟨by dsimp only; omega, by dsimp only; omega⟩, h5⟩
  · rw [if_neg h46]
    have hd : isDig c = true := by rcases hc with h | h; exact absurd h h46; exact h
    rw [isDig_iff] at hd
    by_cases h0 : c = 48 ∧ s.nd = 0
    · rw [if_pos h0]
      exact ⟨by dsimp only; omega, h2, ⟨by dsimp only; omega, by dsimp only; omega⟩, h5⟩
    · rw [if_neg h0]
      by_cases hm : s.ndm < 19
      · rw [if_pos hm]
        refine ⟨by dsimp only; omega, by dsimp only; omega, ⟨by dsimp only; omega, by dsimp only; omega⟩, ?_⟩
        dsimp only
        rw [Nat.pow_succ]
        omega
      · rw [if_neg hm]
        exact ⟨by dsimp only; omega, h2, ⟨by dsimp only; omega, by dsimp only; omega⟩, h5⟩
theorem RS.ok_init : RS.init.Ok 0 := ⟨Nat.le_refl _, by decide, by decide, by decide⟩

/-- The mantissa's characters. -/
theorem Parts.chars {l : List UInt8} {D : Nat} {dot : Bool} {m : Nat} (h : Parts l D dot m) (i : Nat) (hi : i < m) : ∃ c, l[i]? = some c ∧ (isDig c = true ∨ (c = 46 ∧ i = D ∧ dot = true)) := by
  have hD := h.hD
  rcases Nat.lt_trichotomy i D with h1 | h1 | h1
  · obtain ⟨c, a, b⟩ := digs_dig l i (by omega); exact ⟨c, a, .inl b⟩
  · subst h1
    cases hd : dot with
    | false => have := h.hm; rw [hd] at this; simp at this; omega
    | true => exact ⟨46, h.hdot.2 hd, .inr ⟨rfl, rfl, rfl⟩⟩
  · cases hd : dot with
    | false => have := h.hm; rw [hd] at this; simp at this; omega
    | true =>
      have hm := h.hm
      rw [hd] at hm
      simp at hm
      obtain ⟨c, a, b⟩ := digs_drop l (D + 1) i (by omega) (by rw [hm, ← List.drop_drop] at hi; rw [← List.drop_drop]; omega)
      exact ⟨c, a, .inl b⟩
theorem RS.run_ok {l : List UInt8} {D : Nat} {dot : Bool} {m : Nat} (h : Parts l D dot m) : ∀ k, k ≤ m → (RS.run l k).Ok k
  | 0, _ => by unfold RS.run; exact RS.ok_init
  | k + 1, hk => by
    obtain ⟨c, hc, hcc⟩ := h.chars k (by omega)
    rw [RS.run_succ l k c hc]
    exact RS.ok_step (RS.run_ok h k (by omega)) c (by rcases hcc with h | h; exact .inr h; exact .inl h.1)
/-- A point is seen just behind it. -/
theorem RS.run_sd {l : List UInt8} {D : Nat} {dot : Bool} {m : Nat} (h : Parts l D dot m) : ∀ k, k ≤ m → (RS.run l k).sd = (dot && decide (D < k))
  | 0, _ => by unfold RS.run; simp [RS.init]
  | k + 1, hk => by
    obtain ⟨c, hc, hcc⟩ := h.chars k (by omega)
    have ih := RS.run_sd h k (by omega)
    rw [RS.run_succ l k c hc]
    unfold RS.step
    rcases hcc with hd | ⟨rfl, rfl, hd⟩
    · have h46 : c ≠ 46 := (not_e_dig c hd).2.2.2.2
      have hkD : k ≠ D ∨ dot = false := by
        rcases Nat.lt_or_ge k D with h1 | h1
        · left; omega
        · by_cases h2 : k = D
          · right
            cases hdd : dot with
            | false => rfl
            | true => subst h2; rw [h.hdot.2 hdd] at hc; exact absurd (Option.some.inj hc).symm h46
          · left; exact h2
      rw [if_neg h46]
      split
      · show (RS.run l k).sd = _
        rw [ih]
        rcases hkD with h1 | h1
        · congr 1; simp; omega
        · rw [h1]; rfl
      · split
        · show (RS.run l k).sd = _
          rw [ih]
          rcases hkD with h1 | h1
          · congr 1; simp; omega
          · rw [h1]; rfl
        · show (RS.run l k).sd = _
          rw [ih]
          rcases hkD with h1 | h1
          · congr 1; simp; omega
          · rw [h1]; rfl
    · rw [if_pos rfl]
      show true = _
      rw [hd]; simp
theorem RS.step_sg (s : RS) (c : UInt8) (h : c ≠ 46) : (s.step c).sg = true := by
  unfold RS.step; rw [if_neg h]; split
  · rfl
  · split <;> rfl
theorem RS.step_sg46 (s : RS) : (s.step 46).sg = s.sg := by unfold RS.step; rw [if_pos rfl]
/-- Behind the mantissa a digit has been seen. -/
theorem RS.run_sg {l : List UInt8} {D : Nat} {dot : Bool} {m : Nat} (h : Parts l D dot m) : (RS.run l m).sg = true := by
  have hp := h.hpos
  have hm := h.hm
  cases hd : dot with
  | false =>
    rw [hd] at hp hm
    simp only [Bool.false_eq_true, if_false] at hp hm
    obtain ⟨k, rfl⟩ : ∃ k, m = k + 1 := ⟨m - 1, by omega⟩
    obtain ⟨c, hc, hcc⟩ := h.chars k (by omega)
    rw [RS.run_succ l k c hc]
    refine RS.step_sg _ c ?_
    rcases hcc with hd1 | ⟨_, _, hd1⟩
    · exact (not_e_dig c hd1).2.2.2.2
    · rw [hd] at hd1; cases hd1
  | true =>
    rw [hd] at hp hm
    simp only [if_true] at hp hm
    obtain ⟨k, hk⟩ : ∃ k, m = k + 1 := ⟨m - 1, by omega⟩
    obtain ⟨c, hc, hcc⟩ := h.chars k (by omega)
    rw [hk, RS.run_succ l k c hc]
    rcases hcc with hd1 | ⟨rfl, hkD, _⟩
    · exact RS.step_sg _ c (not_e_dig c hd1).2.2.2.2
    · rw [RS.step_sg46]
      obtain ⟨k2, rfl⟩ : ∃ k2, k = k2 + 1 := ⟨k - 1, by omega⟩
      obtain ⟨c2, hc2, hcc2⟩ := h.chars k2 (by omega)
      rw [RS.run_succ l k2 c2 hc2]
      refine RS.step_sg _ c2 ?_
      rcases hcc2 with hd1 | ⟨_, h2, _⟩
      · exact (not_e_dig c2 hd1).2.2.2.2
      · omega

/-- The exponent's digits, capped. -/
def exStep (e : Nat) (c : UInt8) : Nat := if e < 10000 then e * 10 + (c.toNat - 48) else e
def exRun (l : List UInt8) (k : Nat) : Nat := (l.take k).foldl exStep 0
theorem exRun_succ (l : List UInt8) (k : Nat) (c : UInt8) (h : l[k]? = some c) : exRun l (k + 1) = exStep (exRun l k) c := by
  unfold exRun
  rw [List.take_add_one, h]
  simp [List.foldl_append]
theorem exStep_lt (e : Nat) (c : UInt8) (h : e < 100000) (hc : isDig c = true) : exStep e c < 100000 := by
  rw [isDig_iff] at hc
  unfold exStep; split <;> omega

/-- Mantissa, exponent, whether something was cut. -/
def readM (l : List UInt8) (m : Nat) : Nat := (RS.run l m).man
def readT (l : List UInt8) (m : Nat) : Bool := (RS.run l m).tr
def readDp (l : List UInt8) (m : Nat) : Int := if (RS.run l m).sd then (RS.run l m).dp else (RS.run l m).nd
def readE (l : List UInt8) (m : Nat) : Int :=
  if m < l.length then
    if l[m + 1]? = some 45 then -(exRun (l.drop (m + 2)) (l.length - (m + 2)) : Int)
    else if l[m + 1]? = some 43 then (exRun (l.drop (m + 2)) (l.length - (m + 2)) : Int)
    else (exRun (l.drop (m + 1)) (l.length - (m + 1)) : Int)
  else 0
def readX (l : List UInt8) (m : Nat) : Int := if readM l m = 0 then 0 else readDp l m + readE l m - (RS.run l m).ndm

end Go.Proofs.YtblpcpkkjbkakaaGreatDoor
