/- Lemmas towards the seat's laws: 3 texts joined. -/
import Derived.Test.YtblpcpkkjbkakaaGreatDoorY37
/- The reference's reader of tokens: its state; next, take, word. -/
namespace Go.Proofs.YtblpcpkkjbkakaaGreatDoor
open Go Go.RowKit
set_option linter.unusedVariables false
set_option linter.unusedSimpArgs false

/-- All that was there stands, but block r. -/
structure Rf (r : Nat) (w w' : World) : Prop where
  bl : Below 0 w w'
  kp : ∀ k, k < w.heap.size → k ≠ r → w'.heap[k]? = w.heap[k]?
theorem Rf.refl (r : Nat) (w : World) : Rf r w w := ⟨Below.refl _ _, fun _ _ _ => rfl⟩
theorem Rf.trans {r : Nat} {w w1 w2 : World} (h : Rf r w w1) (k : Rf r w1 w2) : Rf r w w2 :=
  ⟨h.bl.trans k.bl, fun i hi hr => (k.kp i (by have := h.bl.size; omega) hr).trans (h.kp i hi hr)⟩
theorem Rf.ofOld {r : Nat} {w w1 : World} (h : Below w.heap.size w w1) : Rf r w w1 := ⟨h.mono (Nat.zero_le _), fun k hk _ => h.block k hk⟩
theorem Rf.ofD {r : Nat} {w w1 : World} (h : DFr r w w1) : Rf r w w1 := ⟨h.2.1, fun k _ hr => h.1 k hr⟩
theorem Rf.drewN {r : Nat} {w w1 : World} (h : Rf r w w1) (n : Nat) : Rf r w (w1.drewN n) := ⟨below_drewN h.bl n, h.kp⟩
theorem Rf.cell {r : Nat} {w w' : World} (h : Rf r w w') (k i : Nat) (hk : k < w.heap.size) (hr : k ≠ r) : w'.cell? ⟨k, i, none⟩ = w.cell? ⟨k, i, none⟩ := by
  simp only [World.cell?, h.kp k hk hr]
theorem Rf.below {r B : Nat} {w w' : World} (h : Rf r w w') (hr : B ≤ r) (hB : B ≤ w.heap.size) : Below B w w' :=
  ⟨h.bl.os, h.bl.tape, h.bl.output, h.bl.size, fun k hk => h.kp k (by omega) (by omega)⟩

/-- A slice of tokens, in block q. -/
def TL (q : Nat) (w : World) (v : Value) (T : List (UInt8 × List UInt8)) : Prop :=
  ∃ a c, v = .slice a T.length c ∧ T.length ≤ c ∧ c ≤ 9223372036854775807 ∧ (0 < T.length → ∃ o, a = some ⟨q, o, none⟩ ∧ q < w.heap.size ∧
    ∀ i t, T[i]? = some t → w.cell? ⟨q, o + i * 2, none⟩ = some (.int .u8 t.1.toNat) ∧ w.cell? ⟨q, o + i * 2 + 1, none⟩ = some (.string ⟨t.2.toArray⟩))
theorem TL.keep {q : Nat} {w w' : World} {v : Value} {T : List (UInt8 × List UInt8)} (h : TL q w v T) (hs : w.heap.size ≤ w'.heap.size) (hq : q < w.heap.size → w'.heap[q]? = w.heap[q]?) : TL q w' v T := by
  obtain ⟨a, c, h1, h2, h3, h4⟩ := h
  refine ⟨a, c, h1, h2, h3, fun h0 => ?_⟩
  obtain ⟨o, h5, h6, h7⟩ := h4 h0
  have e := hq h6
  refine ⟨o, h5, by omega, fun i t ht => ?_⟩
  obtain ⟨h8, h9⟩ := h7 i t ht
  simp only [World.cell?, e] at h8 h9 ⊢
  exact ⟨h8, h9⟩
/-- The reader in block r, its tokens in block q. -/
structure RdS (r q : Nat) (bad : Bool) (T : List (UInt8 × List UInt8)) (w : World) : Prop where
  rd : ∃ v, w.heap[r]? = some (.cells #[v, .bool bad] 70 (0, 0)) ∧ TL q w v T
  ne : q ≠ r
  ql : q < w.heap.size
theorem RdS.lt {r q : Nat} {bad : Bool} {T : List (UInt8 × List UInt8)} {w : World} (h : RdS r q bad T w) : r < w.heap.size := by
  obtain ⟨v, h1, _⟩ := h.rd
  exact (Array.getElem?_eq_some_iff.1 h1).1
theorem RdS.keep {r q : Nat} {bad : Bool} {T : List (UInt8 × List UInt8)} {w w' : World} (h : RdS r q bad T w) (hs : w.heap.size ≤ w'.heap.size) (hr : w'.heap[r]? = w.heap[r]?) (hq : w'.heap[q]? = w.heap[q]?) : RdS r q bad T w' := by
  obtain ⟨⟨v, h1, h2⟩, h3, h4⟩ := h
  exact ⟨⟨v, hr.trans h1, h2.keep hs fun _ => hq⟩, h3, by omega⟩
theorem RdS.keepO {r q : Nat} {bad : Bool} {T : List (UInt8 × List UInt8)} {w w' : World} (h : RdS r q bad T w) (hb : Below w.heap.size w w') : RdS r q bad T w' :=
  h.keep hb.size (hb.block _ h.lt) (hb.block _ h.ql)
theorem RdS.grown {r q B : Nat} {bad : Bool} {T : List (UInt8 × List UInt8)} {w w' : World} {row : Option Nat} (h : RdS r q bad T w) (hg : w.grownBy w' row) (hB : ∀ k, row = some k → B ≤ k) (hr : r < B) (hq : q < B) : RdS r q bad T w' :=
  h.keep hg.size (hg.block _ h.lt (fun e => by have := hB r e.symm; omega)) (hg.block _ h.ql (fun e => by have := hB q e.symm; omega))
theorem Rf.grown {r : Nat} {w w1 w2 : World} {row : Option Nat} (h : Rf r w w1) (hg : w1.grownBy w2 row) (hB : ∀ k, row = some k → w.heap.size ≤ k) : Rf r w w2 :=
  ⟨⟨hg.os.trans h.bl.os, hg.tape.trans h.bl.tape, hg.output.trans h.bl.output, Nat.le_trans h.bl.size hg.size, fun k hk => absurd hk (Nat.not_lt_zero k)⟩,
    fun k hk hr => (hg.block k (by have := h.bl.size; omega) (fun e => by have := hB k e.symm; omega)).trans (h.kp k hk hr)⟩
theorem Rf.alloc {r : Nat} {w w1 : World} (h : Rf r w w1) (o : Obj) : Rf r w (w1.alloc o) := h.trans (Rf.ofOld ((Below.refl _ _).alloc (Nat.le_refl _) o))
theorem ownsRow_rf {r base e sz n : Nat} {w w' : World} {v : Value} {xs : List Value} (h : w.ownsRow base e sz v n xs) (hf : Rf r w w') (hr : r < base) : w'.ownsRow base e sz v n xs := by
  obtain ⟨h1, h2⟩ := h
  refine ⟨h1, ?_⟩
  rcases h2 with h | ⟨g, cap, cur, hv, hb, hg, h5⟩
  · exact .inl h
  · exact .inr ⟨g, cap, cur, hv, hb, by rw [hf.kp g (Array.getElem?_eq_some_iff.1 hg).1 (by omega)]; exact hg, h5⟩
/-- What kind comes next. -/
def nxk (bad : Bool) (T : List (UInt8 × List UInt8)) : Nat := if bad then 0 else match T with
  | [] => 0
  | t :: _ => t.1.toNat

theorem RdS.cells {r q : Nat} {bad : Bool} {T : List (UInt8 × List UInt8)} {w : World} (h : RdS r q bad T w) : ∃ v, w.cell? ⟨r, 0, none⟩ = some v ∧ w.cell? ⟨r, 1, none⟩ = some (.bool bad) ∧ TL q w v T := by
  obtain ⟨⟨v, h1, h2⟩, h3, h4⟩ := h
  exact ⟨v, by rw [cell_of_row w r 0 _ _ _ h1]; rfl, by rw [cell_of_row w r 1 _ _ _ h1]; rfl, h2⟩
theorem RdS.froz {r q : Nat} {bad : Bool} {T : List (UInt8 × List UInt8)} {w : World} (h : RdS r q bad T w) (i : Nat) : w.frozen? ⟨r, i, none⟩ = false := by
  obtain ⟨⟨v, h1, h2⟩, h3, h4⟩ := h
  simp [World.frozen?, h1]
theorem rd_set0 {r : Nat} {w : World} {v v' x : Value} (h : w.heap[r]? = some (.cells #[v, x] 70 (0, 0))) : (w.setCell ⟨r, 0, none⟩ v').heap[r]? = some (.cells #[v', x] 70 (0, 0)) := by
  simp [World.setCell, Array.getElem?_modify, h]
theorem rd_set1 {r : Nat} {w : World} {v v' x : Value} (h : w.heap[r]? = some (.cells #[v, x] 70 (0, 0))) : (w.setCell ⟨r, 1, none⟩ v').heap[r]? = some (.cells #[v, v'] 70 (0, 0)) := by
  simp [World.setCell, Array.getElem?_modify, h]
theorem RdS.setBad {r q : Nat} {bad : Bool} {T : List (UInt8 × List UInt8)} {w : World} (h : RdS r q bad T w) (b : Bool) : RdS r q b T (w.setCell ⟨r, 1, none⟩ (.bool b)) := by
  obtain ⟨⟨v, h1, h2⟩, h3, h4⟩ := h
  exact ⟨⟨v, rd_set1 h1, h2.keep (by simp [World.setCell]) fun _ => Below.heap_setCell _ _ _ _ h3⟩, h3, by simpa [World.setCell] using h4⟩
theorem RdS.setL {r q : Nat} {bad : Bool} {T T' : List (UInt8 × List UInt8)} {w : World} {v' : Value} (h : RdS r q bad T w) (hv : TL q w v' T') : RdS r q bad T' (w.setCell ⟨r, 0, none⟩ v') := by
  obtain ⟨⟨v, h1, h2⟩, h3, h4⟩ := h
  exact ⟨⟨v', rd_set0 h1, hv.keep (by simp [World.setCell]) fun _ => Below.heap_setCell _ _ _ _ h3⟩, h3, by simpa [World.setCell] using h4⟩

set_option maxRecDepth 100000 in
set_option maxHeartbeats 1000000 in
theorem rnext (r q : Nat) (bad : Bool) (T : List (UInt8 × List UInt8)) (w : World) (h : RdS r q bad T w) : Calls Tryz.prog 77 #[.pointer (some ⟨r, 0, none⟩)] w fun e w' => e = .returned (.int .u8 (nxk bad T : Nat)) ∧ w = w' := by
  obtain ⟨v, c0, c1, a, c, rfl, h1, h2, h3⟩ := h.cells
  clear h
  go_enter Tryz.func77, Tryz.ntmps77
  cases T with
  | nil =>
    go_wp2_with fail
    go_ret
    exact ⟨by cases bad <;> rfl, rfl⟩
  | cons t T =>
    obtain ⟨o, rfl, hq, hc⟩ := h3 (by simp)
    have c2 := (hc 0 t rfl).1
    rw [Nat.zero_mul, Nat.add_zero] at c2
    clear hc h3
    cases bad with
    | true =>
      go_wp2_with fail
      go_ret
      exact ⟨rfl, rfl⟩
    | false =>
      go_wp2_with fail
      go_ret
      exact ⟨rfl, rfl⟩

theorem TL.tail {q : Nat} {w : World} {o c : Nat} {t : UInt8 × List UInt8} {T : List (UInt8 × List UInt8)} (hc : T.length + 1 ≤ c) (hc2 : c ≤ 9223372036854775807) (hq : q < w.heap.size)
    (h : ∀ i t', (t :: T)[i]? = some t' → w.cell? ⟨q, o + i * 2, none⟩ = some (.int .u8 t'.1.toNat) ∧ w.cell? ⟨q, o + i * 2 + 1, none⟩ = some (.string ⟨t'.2.toArray⟩)) :
    TL q w (if c = 1 then .slice (some ⟨q, o, none⟩) 0 0 else .slice (some ⟨q, o + 2, none⟩) T.length (c - 1)) T := by
  split
  · have hT : T = [] := List.eq_nil_of_length_eq_zero (by omega)
    subst hT
    exact ⟨_, 0, rfl, Nat.le_refl _, by omega, fun h => absurd h (by decide)⟩
  · refine ⟨_, c - 1, rfl, by omega, by omega, fun h0 => ⟨o + 2, rfl, hq, fun i t' ht => ?_⟩⟩
    obtain ⟨h1, h2⟩ := h (i + 1) t' (by simpa using ht)
    rw [show o + (i + 1) * 2 = o + 2 + i * 2 by omega] at h1 h2
    exact ⟨h1, h2⟩
/-- What take leaves: the token of the kind, or the sign that it was another. -/
def TkPost (r q k : Nat) (bad : Bool) (T : List (UInt8 × List UInt8)) (w : World) (e : Ending) (w' : World) : Prop :=
  ∃ x, e = .returned (.string x) ∧ ((∃ t T', bad = false ∧ T = t :: T' ∧ t.1.toNat = k ∧ x = ⟨t.2.toArray⟩ ∧ RdS r q false T' w') ∨ (nxk bad T ≠ k ∧ x = ⟨#[]⟩ ∧ RdS r q true T w')) ∧ DFr r w w'
set_option maxRecDepth 100000 in
set_option maxHeartbeats 1000000 in
theorem rtake (r q k : Nat) (bad : Bool) (T : List (UInt8 × List UInt8)) (w : World) (h : RdS r q bad T w) (hk0 : k ≠ 0) (hk : k < 256) : Calls Tryz.prog 51 #[.pointer (some ⟨r, 0, none⟩), .int .u8 (k : Nat)] w (TkPost r q k bad T w) := by
  have hn := rnext r q bad T w h
  have z0 := h.froz 0
  have z1 := h.froz 1
  obtain ⟨v, c0, c1, a, c, rfl, h1, h2, h3⟩ := h.cells
  have HH := Lib.hid h; clear h
  obtain ⟨n, hnx⟩ : ∃ n, n = nxk bad T := ⟨_, rfl⟩
  rw [← hnx] at hn
  have HN := Lib.hid hn; clear hn
  go_enter Tryz.func51, Tryz.ntmps51
  by_cases hnk : n = k
  · have hb : bad = false := by
      cases bad with
      | false => rfl
      | true => exact absurd (hnx.symm.trans hnk) (fun e => hk0 e.symm)
    subst hb
    cases T with
    | nil => exact absurd (hnx.symm.trans hnk) (fun e => hk0 e.symm)
    | cons t T =>
      have ht : t.1.toNat = k := hnx.symm.trans hnk
      obtain ⟨o, rfl, hq, hc⟩ := h3 (by simp)
      have c2 := (hc 0 t rfl).2
      rw [Nat.zero_mul, Nat.add_zero] at c2
      have hT := TL.tail (by simpa using h1) h2 hq hc
      have HT := Lib.hid (And.intro hT ht); clear hT ht hc h3 hnx
      subst hnk
      have h1' : T.length + 1 ≤ c := by simpa using h1
      by_cases hc1 : c = 1
      · rw [if_pos hc1] at HT
        subst hc1
        go_wp2_with (go_at_call 77; refine HN.out.mono ?_; rintro e w' ⟨rfl, rfl⟩)
        go_ret
        exact ⟨_, rfl, .inl ⟨t, T, rfl, rfl, HT.out.2, rfl, HH.out.setL HT.out.1⟩, (DFr.refl _ _).set _ _⟩
      · rw [if_neg hc1] at HT
        go_wp2_with (go_at_call 77; refine HN.out.mono ?_; rintro e w' ⟨rfl, rfl⟩)
        go_ret
        exact ⟨_, rfl, .inl ⟨t, T, rfl, rfl, HT.out.2, rfl, HH.out.setL HT.out.1⟩, (DFr.refl _ _).set _ _⟩
  · have hb : ((n : Int) == (k : Int)) = false := beq_false_of_ne (by omega)
    have hne : nxk bad T ≠ k := fun e => hnk (hnx.trans e)
    have HX := Lib.hid hne
    clear hnx h3 hne
    go_wp2_with (go_at_call 77; refine HN.out.mono ?_; rintro e w' ⟨rfl, rfl⟩)
    go_ret
    exact ⟨_, rfl, .inr ⟨HX.out, rfl, HH.out.setBad true⟩, (DFr.refl _ _).set _ _⟩
/-- What word leaves: whether the word stood there. -/
def WdPost (r q : Nat) (s : List UInt8) (bad : Bool) (T : List (UInt8 × List UInt8)) (w : World) (e : Ending) (w' : World) : Prop :=
  ∃ b, e = .returned (.bool b) ∧ ((b = true ∧ ∃ t T', bad = false ∧ T = t :: T' ∧ t.1 = 97 ∧ t.2 = s ∧ RdS r q false T' w') ∨ (b = false ∧ ¬ (bad = false ∧ ∃ t T', T = t :: T' ∧ t.1 = 97 ∧ t.2 = s) ∧ RdS r q bad T w')) ∧ DFr r w w'
set_option maxRecDepth 100000 in
set_option maxHeartbeats 1000000 in
theorem rword (r q : Nat) (s : List UInt8) (bad : Bool) (T : List (UInt8 × List UInt8)) (w : World) (h : RdS r q bad T w) : Calls Tryz.prog 53 #[.pointer (some ⟨r, 0, none⟩), .string ⟨s.toArray⟩] w (WdPost r q s bad T w) := by
  have hn := rnext r q bad T w h
  have z0 := h.froz 0
  have z1 := h.froz 1
  obtain ⟨v, c0, c1, a, c, rfl, h1, h2, h3⟩ := h.cells
  have HH := Lib.hid h; clear h
  obtain ⟨n, hnx⟩ : ∃ n, n = nxk bad T := ⟨_, rfl⟩
  rw [← hnx] at hn
  have HN := Lib.hid hn; clear hn
  go_enter Tryz.func53, Tryz.ntmps53
  by_cases hnk : n = 97
  · have hb : bad = false := by
      cases bad with
      | false => rfl
      | true => exact absurd (hnx.symm.trans hnk) (show ¬ (0 = 97) by decide)
    subst hb
    cases T with
    | nil => exact absurd (hnx.symm.trans hnk) (show ¬ (0 = 97) by decide)
    | cons t T =>
      have ht : t.1.toNat = 97 := hnx.symm.trans hnk
      have ht' : t.1 = 97 := UInt8.toNat_inj.1 ht
      obtain ⟨o, rfl, hq, hc⟩ := h3 (by simp)
      have c2 := (hc 0 t rfl).2
      rw [Nat.zero_mul, Nat.add_zero] at c2
      have hT := TL.tail (by simpa using h1) h2 hq hc
      have HT := Lib.hid (And.intro hT ht'); clear hT ht ht' hc h3 hnx
      subst hnk
      have h1' : T.length + 1 ≤ c := by simpa using h1
      by_cases hts : t.2 = s
      · subst hts
        by_cases hc1 : c = 1
        · rw [if_pos hc1] at HT
          subst hc1
          go_wp2_with (go_at_call 77; refine HN.out.mono ?_; rintro e w' ⟨rfl, rfl⟩)
          go_ret
          exact ⟨_, rfl, .inl ⟨rfl, t, T, rfl, rfl, HT.out.2, rfl, HH.out.setL HT.out.1⟩, (DFr.refl _ _).set _ _⟩
        · rw [if_neg hc1] at HT
          go_wp2_with (go_at_call 77; refine HN.out.mono ?_; rintro e w' ⟨rfl, rfl⟩)
          go_ret
          exact ⟨_, rfl, .inl ⟨rfl, t, T, rfl, rfl, HT.out.2, rfl, HH.out.setL HT.out.1⟩, (DFr.refl _ _).set _ _⟩
      · have hb : (t.2 == s) = false := beq_false_of_ne hts
        have HX := Lib.hid hts; clear hts
        go_wp2_with (go_at_call 77; refine HN.out.mono ?_; rintro e w' ⟨rfl, rfl⟩)
        go_ret
        exact ⟨_, rfl, .inr ⟨rfl, fun hx => by obtain ⟨_, t', T', he, _, h⟩ := hx; cases he; exact HX.out h, HH.out⟩, DFr.refl _ _⟩
  · have hb : ((n : Int) == 97) = false := beq_false_of_ne (by omega)
    have hne : nxk bad T ≠ 97 := fun e => hnk (hnx.trans e)
    have HX := Lib.hid hne
    clear hnx h3 hne
    go_wp2_with (go_at_call 77; refine HN.out.mono ?_; rintro e w' ⟨rfl, rfl⟩)
    go_ret
    refine ⟨_, rfl, .inr ⟨rfl, fun hx => ?_, HH.out⟩, DFr.refl _ _⟩
    obtain ⟨rfl, t', T', rfl, h, _⟩ := hx
    exact HX.out (by show t'.1.toNat = 97; rw [h]; rfl)

/-- How many numbers a place has. -/
def wid (d : Nat) : Nat := 2 + d % 2 + d / 2 % 2
theorem band01 : bits BinOp.and IntKind.i64 0 1 = 0 := by kernel_rfl
theorem band11 : bits BinOp.and IntKind.i64 1 1 = 1 := by kernel_rfl
theorem band21 : bits BinOp.and IntKind.i64 2 1 = 0 := by kernel_rfl
theorem band31 : bits BinOp.and IntKind.i64 3 1 = 1 := by kernel_rfl
theorem width_any (d : Nat) (w : World) (hd : d < 4) : Calls Tryz.prog 48 #[.int .i64 d] w fun e w' => e = .returned (.int .i64 (wid d : Nat)) ∧ w = w' := by
  obtain rfl | rfl | rfl | rfl : d = 0 ∨ d = 1 ∨ d = 2 ∨ d = 3 := by omega
  all_goals
    have b0 := band01
    have b1 := band11
    have b2 := band21
    have b3 := band31
    go_enter Tryz.func48, Tryz.ntmps48
    go_wp2_with fail
    go_ret
    exact ⟨rfl, rfl⟩
theorem leaf_any (k : Nat) (w : World) (hk : k = 2 ∨ k = 3 ∨ k = 6) : Calls Tryz.prog 47 #[.int .i64 k] w fun e w' => e = .returned (.bool (k == 2)) ∧ w = w' := by
  obtain rfl | rfl | rfl := hk
  all_goals
    go_enter Tryz.func47, Tryz.ntmps47
    go_wp2_with fail
    go_ret
    exact ⟨rfl, rfl⟩
theorem kid_any (k : Nat) (w : World) (hk : k = 3 ∨ k = 6) : Calls Tryz.prog 49 #[.int .i64 k] w fun e w' => e = .returned (.int .i64 ((k / 2 + 1 - k / 6 : Nat))) ∧ w = w' := by
  obtain rfl | rfl := hk
  all_goals
    go_enter Tryz.func49, Tryz.ntmps49
    go_wp2_with fail
    go_ret
    exact ⟨rfl, rfl⟩
end Go.Proofs.YtblpcpkkjbkakaaGreatDoor
/- The reference's reading of a place. -/
namespace Go.Proofs.YtblpcpkkjbkakaaGreatDoor
open Go Go.RowKit
set_option linter.unusedVariables false
set_option linter.unusedSimpArgs false

/-- The numbers of a place, and what is left. -/
def plS : Nat → List (UInt8 × List UInt8) → Option (List Nat × List (UInt8 × List UInt8))
  | 0, T => some ([], T)
  | n + 1, T => match plS n T with
    | none => none
    | some (xs, T1) => match numX T1 with
      | none => none
      | some (x, T2) => some (xs ++ [x], T2)
theorem plS_ok : ∀ (n : Nat) (T : List (UInt8 × List UInt8)) (xs : List Nat) (T1 : List (UInt8 × List UInt8)), plS n T = some (xs, T1) → xs.length = n ∧ T1 <:+ T
  | 0, T, xs, T1, h => by
    cases h
    exact ⟨rfl, List.suffix_refl _⟩
  | n + 1, T, xs, T1, h => by
    unfold plS at h
    split at h
    · cases h
    · rename_i ys T2 h2
      obtain ⟨h3, h4⟩ := plS_ok n T ys T2 h2
      split at h
      · cases h
      · rename_i x T3 h5
        cases h
        refine ⟨by simp [h3], List.IsSuffix.trans ?_ h4⟩
        cases T2 with
        | nil => cases h5
        | cons t T2 =>
          rw [numX_cons] at h5
          split at h5
          · cases T2 with
            | nil => cases h5
            | cons t2 T2 =>
              rw [numT_cons] at h5
              split at h5
              · cases h5
                exact (List.suffix_cons _ _).trans (List.suffix_cons _ _)
              · cases h5
          · rw [numT_cons] at h5
            split at h5
            · cases h5
              exact List.suffix_cons _ _
            · cases h5
def minS (neg : Bool) : ByteArray := ⟨(if neg then [45] else [] : List UInt8).toArray⟩
/-- Reading a number behind a sign: what is left where it was one. -/
def NumP (Y : Option (Nat × List (UInt8 × List UInt8))) (bad2 : Bool) (T2 : List (UInt8 × List UInt8)) (w : World) (e : Ending) (w' : World) : Prop :=
  ∃ f b, e = .returned (.tuple #[.float .f64 f, .bool b]) ∧ (bad2 = false → Y = if b then some (f, T2) else none) ∧ Below w.heap.size w w'
theorem tk_num {r q : Nat} {neg bad1 : Bool} {T1 : List (UInt8 × List UInt8)} {x : ByteArray} {w2 : World} (hbn : bad1 = true → neg = false) (hok : TksOk T1) (B : Nat) (g gl gp : Nat × Nat) (hG : GlN B g gl gp w2)
    (h : (∃ t T', bad1 = false ∧ T1 = t :: T' ∧ t.1.toNat = 49 ∧ x = ⟨t.2.toArray⟩ ∧ RdS r q false T' w2) ∨ (nxk bad1 T1 ≠ 49 ∧ x = ⟨#[]⟩ ∧ RdS r q true T1 w2)) :
    ∃ bad2 T2, RdS r q bad2 T2 w2 ∧ T2 <:+ T1 ∧ x.size ≤ 2000 ∧ (bad2 = true → bad1 = true ∨ numT neg T1 = none) ∧ (bad2 = false → bad1 = false) ∧ Calls Tryz.prog 14 #[.string (minS neg ++ x)] w2 (NumP (numT neg T1) bad2 T2 w2) := by
  rcases h with ⟨t, T', rfl, rfl, h49, rfl, hR⟩ | ⟨hne, rfl, hR⟩
  · have htk := hok t (List.mem_cons_self ..)
    have h49' : t.1 = 49 := UInt8.toNat_inj.1 h49
    refine ⟨false, T', hR, List.suffix_cons _ _, by have := htk.2.1; simpa [ByteArray.size] using this, fun h => absurd h (by decide), fun _ => rfl, ?_⟩
    have hc := spec_tok t neg htk.1 htk.2.2 h49' htk.2.1 B g gl gp w2 hG
    have hcat : minS neg ++ (⟨t.2.toArray⟩ : ByteArray) = ⟨((if neg then [45] else []) ++ t.2).toArray⟩ := by
      unfold minS; cases neg <;> rfl
    rw [hcat]
    refine hc.mono ?_
    rintro e w' ⟨b, rfl, hb, hbl⟩
    refine ⟨_, b, rfl, fun _ => ?_, hbl⟩
    rw [numT_cons]
    cases b with
    | true => rw [if_pos ⟨h49', hb.1 rfl⟩]; rfl
    | false => rw [if_neg (fun h => absurd (hb.2 h.2) (by decide))]; rfl
  · refine ⟨true, T1, hR, List.suffix_refl _, by decide, fun _ => ?_, fun h => absurd h (by decide), ?_⟩
    · cases bad1 with
      | true => exact .inl rfl
      | false =>
        right
        cases T1 with
        | nil => rfl
        | cons t T1 =>
          rw [numT_cons, if_neg]
          rintro ⟨h, -⟩
          exact hne (by show t.1.toNat = 49; rw [h]; rfl)
    · have hsz : 4 ≤ w2.heap.size := by have := hG.hB; omega
      have hc : Calls Tryz.prog 14 #[.string (minS neg ++ ⟨#[]⟩)] w2 (SrG w2) := by
        cases neg with
        | true => exact sr_minus w2 B hG.er hsz
        | false => exact sr_empty w2 B hG.er hsz
      refine hc.mono ?_
      rintro e w' ⟨f, b, rfl, hb⟩
      exact ⟨f, b, rfl, fun h => absurd h (by decide), hb⟩
theorem tok45 {t : UInt8 × List UInt8} (h : TokOk t) : t.2 = [45] ↔ t.1 = 45 := by
  constructor
  · intro e
    rcases h with ⟨h97, -, hl⟩ | ⟨h49, -, hd⟩ | ⟨hs, he⟩
    · rw [e] at hl; exact absurd hl (by decide)
    · rw [e] at hd; exact absurd hd (by decide)
    · rw [e] at he; exact (List.cons.inj he).1.symm
  · intro e
    rcases h with ⟨h97, -, hl⟩ | ⟨h49, -, hd⟩ | ⟨hs, he⟩
    · rw [e] at h97; exact absurd h97 (by decide)
    · rw [e] at h49; exact absurd h49 (by decide)
    · rw [he, e]
theorem TksOk.suffix {T T' : List (UInt8 × List UInt8)} (h : TksOk T) (hs : T' <:+ T) : TksOk T' := fun t ht => h t (hs.subset ht)

theorem info25 : (Tryz.prog.info? 25).map (fun i => (i.zero, i.size, i.bytes)) = some (some (.float .f64 0), 1, 8) := by kernel_rfl
def fcells (xs : List Nat) : List Value := xs.map (.float .f64)
theorem GlN.rf {B : Nat} {g gl gp : Nat × Nat} {r : Nat} {w w' : World} (h : GlN B g gl gp w) (hr : Rf r w w') (hB : B ≤ r) : GlN B g gl gp w' := h.keep (hr.below hB h.hB.2.2.2.2)
/-- A place that is read: its numbers, in a new row. -/
def PlState (r q n : Nat) (bad : Bool) (T : List (UInt8 × List UInt8)) (w : World) (v : Value) (wr : World) : Prop :=
  ∃ xs bj Tj, xs.length = n ∧ wr.ownsRow w.heap.size 25 1 v n (fcells xs) ∧ RdS r q bj Tj wr ∧ Rf r w wr ∧ Tj <:+ T ∧ ((bj = false ∧ bad = false ∧ plS n T = some (xs, Tj)) ∨ (bj = true ∧ (bad = true ∨ plS n T = none)))
/-- One number more. -/
theorem pl_step {n : Nat} {bad bj bad2 b : Bool} {T Tj T2 : List (UInt8 × List UInt8)} {xs : List Nat} {f : Nat} (hp : (bj = false ∧ bad = false ∧ plS n T = some (xs, Tj)) ∨ (bj = true ∧ (bad = true ∨ plS n T = none)))
    (h1 : bad2 = true → bj = true ∨ numX Tj = none) (h2 : bad2 = false → bj = false) (h3 : bad2 = false → numX Tj = if b then some (f, T2) else none) :
    ((bad2 || !b) = false ∧ bad = false ∧ plS (n + 1) T = some (xs ++ [f], T2)) ∨ ((bad2 || !b) = true ∧ (bad = true ∨ plS (n + 1) T = none)) := by
  rcases hp with ⟨rfl, rfl, hp⟩ | ⟨rfl, hp⟩
  · cases bad2 with
    | true =>
      right
      rcases h1 rfl with h | h
      · cases h
      · exact ⟨rfl, .inr (by unfold plS; rw [hp]; simp only [h])⟩
    | false =>
      have h := h3 rfl
      cases b with
      | true => exact .inl ⟨rfl, rfl, by unfold plS; rw [hp]; simp only [h, if_true]⟩
      | false => exact .inr ⟨rfl, .inr (by unfold plS; rw [hp]; simp only [h]; rfl)⟩
  · right
    cases bad2 with
    | false => exact absurd (h2 rfl) (by decide)
    | true =>
      refine ⟨rfl, ?_⟩
      rcases hp with h | h
      · exact .inl h
      · exact .inr (by unfold plS; rw [h])
def PlPost (r q d : Nat) (bad : Bool) (T : List (UInt8 × List UInt8)) (w : World) (e : Ending) (w' : World) : Prop := ∃ v, e = .returned v ∧ PlState r q (wid d) bad T w v w'

/-- The sign is taken where it stands. -/
def SignSt (r q : Nat) (bj : Bool) (Tj : List (UInt8 × List UInt8)) (m : Value) (wr wx : World) : Prop :=
  ∃ neg T1, m = .string (minS neg) ∧ (bj = true → neg = false) ∧ T1 <:+ Tj ∧ (bj = false → numX Tj = numT neg T1) ∧ RdS r q bj T1 wx ∧ DFr r wr wx
set_option maxRecDepth 100000 in
set_option maxHeartbeats 4000000 in
theorem rplace (r q d : Nat) (bad : Bool) (T : List (UInt8 × List UInt8)) (B : Nat) (g gl gp : Nat × Nat) (w : World) (h : RdS r q bad T w) (hd : d < 4) (hok : TksOk T) (hG : GlN B g gl gp w) (hr : B ≤ r) :
    Calls Tryz.prog 78 #[.pointer (some ⟨r, 0, none⟩), .int .i64 d] w (PlPost r q d bad T w) := by
  have HG := Lib.hid (And.intro h (And.intro hok hG)); clear h hok hG
  obtain ⟨i0, hi, hz0, hz1, hz2⟩ := info_parts info25
  have hwid : wid d ≤ 4 := by unfold wid; omega
  obtain ⟨n, hn⟩ : ∃ n, n = wid d := ⟨_, rfl⟩
  have hw48 := fun W => width_any d W hd
  rw [← hn] at hw48 hwid
  have HW := Lib.hid hw48
  have HN := Lib.hid hn
  clear hw48 hn
  go_enter Tryz.func78, Tryz.ntmps78
  go_wp2_with (go_at_call 48; refine (HW.out _).mono ?_; rintro e w' ⟨rfl, rfl⟩)
  go_loopw [5, 11] (fun v i wr => ∃ j : Nat, j ≤ n ∧ i = .int .i64 j ∧ RowKit.Hid (PlState r q j bad T w v wr)) (fun _ i _ => n - (intOf i).toNat)
  case atStart => exact ⟨0, Nat.zero_le _, rfl, Lib.hid ⟨[], bad, T, rfl, World.ownsRow_nil _ _ _ _, HG.out.1, Rf.refl _ _, List.suffix_refl _, by cases bad; exact .inl ⟨rfl, rfl, rfl⟩; exact .inr ⟨rfl, .inl rfl⟩⟩⟩
  case round =>
    obtain ⟨j, hj, rfl, hS⟩ := hrel
    obtain ⟨xs, bj, Tj, hxl, hown, hR, hrf, hsuf, hp⟩ := hS.out
    by_cases hlt : j < n
    · have hGr := HG.out.2.2.rf hrf hr
      have HS := Lib.hid (And.intro hxl (And.intro hown (And.intro hrf (And.intro hsuf (And.intro hp (And.intro hR hGr))))))
      have hn := rnext r q bj Tj wr hR
      have ht45 := rtake r q 45 bj Tj wr hR (by decide) (by decide)
      obtain ⟨k, hk⟩ : ∃ k, k = nxk bj Tj := ⟨_, rfl⟩
      rw [← hk] at hn
      have HNX := Lib.hid (And.intro hn (And.intro ht45 hk))
      clear hxl hown hrf hsuf hp hS hR hGr hn ht45 hk
      go_upto_if 15 with (go_at_call 77; refine HNX.out.1.mono ?_; rintro e w' ⟨rfl, rfl⟩)
      go_cut [6] (fun m wx => RowKit.Hid (SignSt r q bj Tj m wr wx))
      case first =>
        by_cases h45 : k = 45
        · have hb : ((k : Int) == 45) = true := by rw [h45]; rfl
          have H45 := Lib.hid h45; clear h45
          rw [hb]
          go_wp2_with (go_at_call 51; refine HNX.out.2.1.mono ?_; rintro e w2 ⟨x, rfl, hx, hD⟩)
          go_meet
          case rel =>
            have hk := HNX.out.2.2
            rw [H45.out] at hk
            rcases hx with ⟨t, T', rfl, rfl, h1, rfl, h2⟩ | ⟨h1, -⟩
            · have h45 : t.1 = 45 := UInt8.toNat_inj.1 h1
              have h2' := (tok45 ((HG.out.2.1 t (HS.out.2.2.2.1.subset (List.mem_cons_self ..))).1)).2 h45
              exact Lib.hid ⟨true, T', by rw [h2']; rfl, fun h => absurd h (by decide), List.suffix_cons _ _, fun _ => by rw [numX_cons, if_pos h2'], h2, hD⟩
            · exact absurd hk.symm h1
        · have hb : ((k : Int) == 45) = false := beq_false_of_ne (by omega)
          have H45 := Lib.hid h45; clear h45
          rw [hb]
          go_wp2_with fail
          go_meet
          case rel =>
            have hk := HNX.out.2.2
            refine Lib.hid ⟨false, Tj, rfl, fun _ => rfl, List.suffix_refl _, fun hbj => ?_, HS.out.2.2.2.2.2.1, DFr.refl _ _⟩
            subst hbj
            cases Tj with
            | nil => rfl
            | cons t T' =>
              have hne : ¬ t.2 = [45] := fun e => by
                have h1 := (tok45 ((HG.out.2.1 t (HS.out.2.2.2.1.subset (List.mem_cons_self ..))).1)).1 e
                exact H45.out (hk.trans (by show t.1.toNat = 45; rw [h1]; rfl))
              rw [numX_cons, if_neg hne]
      case rest =>
        obtain ⟨neg, T1, rfl, hbn, hs1, hnx, hR1, hD1⟩ := hcut.out
        have hmn : (minS neg).size ≤ 1 := by cases neg <;> decide
        have hrf1 : Rf r wr wc := Rf.ofD hD1
        have hG1 := HS.out.2.2.2.2.2.2.rf hrf1 hr
        have ht49 := rtake r q 49 bj T1 wc hR1 (by decide) (by decide)
        have hok1 := (HG.out.2.1.suffix HS.out.2.2.2.1).suffix hs1
        have HC := Lib.hid (And.intro ht49 (And.intro hbn (And.intro hs1 (And.intro hnx (And.intro hrf1 (And.intro hG1 hok1))))))
        clear ht49 hbn hs1 hnx hR1 hD1 hrf1 hG1 hok1 hcut HNX
        go_upto_region 8 with (first | (go_at_call 51; refine HC.out.1.mono ?_; rintro e w3 ⟨x, rfl, hx, hD3⟩; obtain ⟨bad2, T2, hR2, hs2, hxs, hb1, hb2, hcl⟩ := tk_num HC.out.2.1 HC.out.2.2.2.2.2.2 B g gl gp (HC.out.2.2.2.2.2.1.rf (Rf.ofD hD3) hr) hx; replace hcl := Lib.hid hcl; clear hx) | (go_at_call 14; refine hcl.out.mono ?_; rintro e w4 ⟨f, b, rfl, hy, hb4⟩))
        have hr4 : RdS r q bad2 T2 w4 := hR2.keepO hb4
        have z1 := hr4.froz 1
        have hrf4 : Rf r w w4 := ((HS.out.2.2.1.trans HC.out.2.2.2.2.1).trans (Rf.ofD hD3)).trans (Rf.ofOld hb4)
        obtain ⟨v4, -, c1, -⟩ := hr4.cells
        have hrl : r < w.heap.size := HG.out.1.lt
        have hql : q < w.heap.size := HG.out.1.ql
        have hown4 : w4.ownsRow w.heap.size 25 1 u5 j (fcells xs) := ownsRow_rf HS.out.2.1 ((HC.out.2.2.2.2.1.trans (Rf.ofD hD3)).trans (Rf.ofOld hb4)) hrl
        have hst := fun hh => pl_step (n := j) (bad := bad) (bj := bj) (bad2 := bad2) (b := b) (T := T) (Tj := Tj) (T2 := T2) (xs := xs) (f := f) HS.out.2.2.2.2.1 (fun h => by
          rcases hb1 h with h | h
          · exact .inl h
          · cases bj with
            | true => exact .inl rfl
            | false => exact .inr ((HC.out.2.2.2.1 rfl).trans h)) hb2 hh
        have hst2 := hst (fun h => by rw [HC.out.2.2.2.1 (hb2 h)]; exact hy h)
        have HE := Lib.hid (And.intro hr4 (And.intro hrf4 (And.intro hst2 (And.intro hs2 (And.intro hrl hql)))))
        clear hr4 hrf4 hst hst2 hs2 hrl hql hR2 hb1 hb2 hcl hy hb4 hD3 hxs
        cases b with
        | true =>
          have hsz : w.heap.size ≤ w4.heap.size := HE.out.2.1.bl.size
          go_wp2_with (at_builtin; refine wpList_append_own _ rfl _ _ 42 rfl w.heap.size 25 i0 (.float .f64 0) 1 8 Tryz.underlying42 hi hz0 hz1 hz2 rfl (by decide) _ _ _ rfl (hown4.alloc _) ⟨w4.heap.size, 0, none⟩ 1 1 [_] rfl rfl (cells_lit1 _ _ _ _ (by simp)) (by intro u hu; simp at hu; subst hu; rfl) (by unfold maxLen; omega) (by omega) (by simp; omega) ?_; intro v1 w5 hown5 hg5 _)
          go_roundw
          case rel =>
            go_light
            obtain ⟨e1, e2, e3, e4, e5, e6⟩ := HE.out
            have hrow : ∀ k, u5.ownBlock = some k → w.heap.size ≤ k := fun k hk => (HS.out.2.1.lt k hk).1
            have ha : RdS r q bad2 T2 (w4.alloc (.cells #[.float .f64 f] 25)) := e1.keepO ((Below.refl _ _).alloc (Nat.le_refl _) _)
            refine ⟨j + 1, by omega, by go_num, Lib.hid ⟨xs ++ [f], _, T2, by simp [HS.out.1], ?_, ha.grown hg5 hrow e5 e6, (e2.alloc _).grown hg5 hrow, e4.trans (HC.out.2.2.1.trans HS.out.2.2.2.1), ?_⟩⟩
            · unfold fcells at hown5 ⊢
              rw [List.map_append]
              exact hown5
            · simpa using e3
          case measure => simp [intOf]; omega
        | false =>
          have hsz : w.heap.size ≤ w4.heap.size := HE.out.2.1.bl.size
          have hset : RdS r q true T2 (w4.setCell ⟨r, 1, none⟩ (.bool true)) := HE.out.1.setBad true
          have hrfs : Rf r w (w4.setCell ⟨r, 1, none⟩ (.bool true)) := HE.out.2.1.trans (Rf.ofD ((DFr.refl _ _).set _ _))
          have howns : (w4.setCell ⟨r, 1, none⟩ (.bool true)).ownsRow w.heap.size 25 1 u5 j (fcells xs) := ownsRow_rf hown4 (Rf.ofD ((DFr.refl _ _).set _ _)) HE.out.2.2.2.2.1
          have HF := Lib.hid (And.intro hset hrfs); clear hset hrfs
          go_wp2_with (at_builtin; refine wpList_append_own _ rfl _ _ 42 rfl w.heap.size 25 i0 (.float .f64 0) 1 8 Tryz.underlying42 hi hz0 hz1 hz2 rfl (by decide) _ _ _ rfl (howns.alloc _) ⟨w4.heap.size, 0, none⟩ 1 1 [_] rfl rfl (cells_lit1 _ _ _ _ (by simp)) (by intro u hu; simp at hu; subst hu; rfl) (by unfold maxLen; omega) (by omega) (by simp; omega) ?_; intro v1 w5 hown5 hg5 _)
          go_roundw
          case rel =>
            go_light
            obtain ⟨e1, e2, e3, e4, e5, e6⟩ := HE.out
            have hrow : ∀ k, u5.ownBlock = some k → w.heap.size ≤ k := fun k hk => (HS.out.2.1.lt k hk).1
            have ha : RdS r q true T2 ((w4.setCell ⟨r, 1, none⟩ (.bool true)).alloc (.cells #[.float .f64 f] 25)) := HF.out.1.keepO ((Below.refl _ _).alloc (Nat.le_refl _) _)
            refine ⟨j + 1, by omega, by go_num, Lib.hid ⟨xs ++ [f], _, T2, by simp [HS.out.1], ?_, ha.grown hg5 hrow e5 e6, (HF.out.2.alloc _).grown hg5 hrow, e4.trans (HC.out.2.2.1.trans HS.out.2.2.2.1), ?_⟩⟩
            · unfold fcells at hown5 ⊢
              rw [List.map_append]
              exact hown5
            · simpa using e3
          case measure => simp [intOf]; omega
    · have hjn : j = n := by omega
      subst hjn
      go_wp2_with fail
      go_ret
      have hS' := hS.out
      rw [HN.out] at hS'
      exact ⟨_, rfl, hS'⟩
end Go.Proofs.YtblpcpkkjbkakaaGreatDoor
/- Bodies of geometries: the plain law of their reading; how they lie in memory. -/
namespace Go.Proofs.YtblpcpkkjbkakaaGreatDoor
open Go Go.RowKit
set_option linter.unusedVariables false
set_option linter.unusedSimpArgs false

abbrev Tok := UInt8 × List UInt8
/-- The word EMPTY. -/
def emptyW : List UInt8 := [69, 77, 80, 84, 89]
/-- Parts with commas between them, up to the closing parenthesis. -/
def mny {α : Type} (f : List Tok → Option (α × List Tok)) : Nat → List Tok → Option (List α × List Tok)
  | 0, _ => none
  | n + 1, T => match f T with
    | none => none
    | some (x, T1) => match T1 with
      | [] => none
      | t :: T2 => if t.1 = 41 then some ([x], T2) else if t.1 = 44 then (mny f n T2).map fun y => (x :: y.1, y.2) else none
/-- EMPTY, or parts in parentheses. -/
def bodyP {α : Type} (f : List Tok → Option (α × List Tok)) : List Tok → Option (List α × List Tok)
  | [] => none
  | t :: T => if t.1 = 97 ∧ t.2 = emptyW then some ([], T) else if t.1 = 40 then mny f T.length T else none
def lineP (d : Nat) (T : List Tok) : Option (List Nat × List Tok) := (bodyP (plS (wid d)) T).map fun y => (y.1.flatten, y.2)
def polyP (d : Nat) : List Tok → Option (List (List Nat) × List Tok) := bodyP (lineP d)
def mpolyP (d : Nat) : List Tok → Option (List (List (List Nat)) × List Tok) := bodyP (polyP d)

/-- A loop's state in the plain law: what was collected, what is left. -/
def LpRel {α : Type} (f : List Tok → Option (α × List Tok)) (bad : Bool) (T : List Tok) (bj : Bool) (l : List α) (Tj : List Tok) : Prop :=
  (bj = false ∧ bad = false ∧ ∃ n, Tj.length ≤ n ∧ bodyP f T = (mny f n Tj).map fun y => (l ++ y.1, y.2)) ∨ (bj = true ∧ (bad = true ∨ bodyP f T = none))
/-- A reading's outcome in the plain law. -/
def RdRel {β : Type} (X : Option (β × List Tok)) (bad bad' : Bool) (x : β) (T' : List Tok) : Prop := (bad' = false ∧ bad = false ∧ X = some (x, T')) ∨ (bad' = true ∧ (bad = true ∨ X = none))

theorem mny_pos {α : Type} {f : List Tok → Option (α × List Tok)} (h0 : f [] = none) {n : Nat} {Tj : List Tok} {x : α} {T1 : List Tok} (hn : Tj.length ≤ n) (h : f Tj = some (x, T1)) : ∃ m, n = m + 1 := by
  cases n with
  | zero =>
    have : Tj = [] := List.eq_nil_of_length_eq_zero (by omega)
    rw [this, h0] at h; cases h
  | succ m => exact ⟨m, rfl⟩
theorem mny_none {α : Type} {f : List Tok → Option (α × List Tok)} {n : Nat} {Tj : List Tok} (h : f Tj = none) : mny f n Tj = none := by
  cases n with
  | zero => rfl
  | succ m => unfold mny; rw [h]
/-- A part more, a comma behind it. -/
theorem LpRel.comma {α : Type} {f : List Tok → Option (α × List Tok)} (h0 : f [] = none) {bad bj b1 : Bool} {T Tj T1 T2 : List Tok} {l : List α} {x : α} {t : Tok} (h : LpRel f bad T bj l Tj) (he : RdRel (f Tj) bj b1 x T1) (hs : T1.length ≤ Tj.length)
    (hb : b1 = false) (ht : T1 = t :: T2) (hk : t.1 = 44) : LpRel f bad T false (l ++ [x]) T2 := by
  subst hb
  rcases he with ⟨-, hbj, hx⟩ | ⟨h, -⟩
  · subst hbj
    rcases h with ⟨-, hbad, n, hn, hX⟩ | ⟨h, -⟩
    · obtain ⟨m, rfl⟩ := mny_pos h0 hn hx
      refine .inl ⟨rfl, hbad, m, ?_, ?_⟩
      · rw [ht] at hs; simp only [List.length_cons] at hs; omega
      · rw [hX]
        conv => lhs; unfold mny
        rw [hx, ht]
        simp only [hk]
        rw [if_neg (by decide)]
        simp only [if_true]
        cases mny f m T2 with
        | none => rfl
        | some y => simp
    · cases h
  · cases h
/-- The last part, and what stands behind it. -/
theorem LpRel.last {α : Type} {f : List Tok → Option (α × List Tok)} (h0 : f [] = none) {bad bj b1 : Bool} {T Tj T1 : List Tok} {l : List α} {x : α} (h : LpRel f bad T bj l Tj) (he : RdRel (f Tj) bj b1 x T1) (hc : nxk b1 T1 ≠ 44) :
    (∀ t T2, b1 = false → T1 = t :: T2 → t.1.toNat = 41 → RdRel (bodyP f T) bad false (l ++ [x]) T2) ∧ (nxk b1 T1 ≠ 41 → RdRel (bodyP f T) bad true (l ++ [x]) T1) := by
  constructor
  · intro t T2 hb ht hk
    subst hb
    rcases he with ⟨-, hbj, hx⟩ | ⟨h, -⟩
    · subst hbj
      rcases h with ⟨-, hbad, n, hn, hX⟩ | ⟨h, -⟩
      · obtain ⟨m, rfl⟩ := mny_pos h0 hn hx
        refine .inl ⟨rfl, hbad, ?_⟩
        rw [hX]
        unfold mny
        rw [hx, ht]
        simp only []
        rw [if_pos (UInt8.toNat_inj.1 hk)]
        rfl
      · cases h
    · cases h
  · intro h41
    right
    refine ⟨rfl, ?_⟩
    rcases h with ⟨hbj, hbad, n, hn, hX⟩ | ⟨hbj, h⟩
    · subst hbj
      right
      rw [hX]
      rcases he with ⟨hb, -, hx⟩ | ⟨-, hx⟩
      · subst hb
        obtain ⟨m, rfl⟩ := mny_pos h0 hn hx
        unfold mny
        rw [hx]
        cases T1 with
        | nil => rfl
        | cons t T2 =>
          simp only []
          rw [if_neg (fun e => h41 (by show t.1.toNat = 41; rw [e]; rfl)), if_neg (fun e => hc (by show t.1.toNat = 44; rw [e]; rfl))]
          rfl
      · rcases hx with hx | hx
        · cases hx
        · rw [mny_none hx]; rfl
    · exact h
theorem plS_nil (n : Nat) : plS (n + 1) [] = none := by
  induction n with
  | zero => rfl
  | succ n ih => unfold plS; rw [ih]
theorem lineP_nil (d : Nat) : lineP d [] = none := rfl
theorem polyP_nil (d : Nat) : polyP d [] = none := rfl
theorem wid_pos (d : Nat) : ∃ n, wid d = n + 1 := ⟨1 + d % 2 + d / 2 % 2, by unfold wid; omega⟩
theorem plW_nil (d : Nat) : plS (wid d) [] = none := by
  obtain ⟨n, h⟩ := wid_pos d
  rw [h]; exact plS_nil n

/-- How a datum lies in cells: F says where its rows may lie. -/
structure Rep {α : Type} (R : (Nat → Prop) → World → List Value → α → Prop) : Prop where
  len : ∀ F w cs x, R F w cs x → cs.length = 4
  one : ∀ F w cs x, R F w cs x → ∀ u ∈ cs, u.oneCell' = true
  keep : ∀ F w w' cs x, R F w cs x → (∀ k, F k → k < w.heap.size → w'.heap[k]? = w.heap[k]?) → R F w' cs x
  nar : ∀ F w cs x, R F w cs x → R (fun k => F k ∧ k < w.heap.size) w cs x
  mono : ∀ (F F' : Nat → Prop) w cs x, R F w cs x → (∀ k, F k → F' k) → R F' w cs x
  form : ∀ F w cs x, R F w cs x → ∃ k d a1 n1 c1 a2 n2 c2, cs = [.int .i64 k, .int .i64 d, .slice a1 n1 c1, .slice a2 n2 c2]
theorem ownsRow_slice {base e sz n : Nat} {w : World} {v : Value} {xs : List Value} (h : w.ownsRow base e sz v n xs) : ∃ a n c, v = .slice a n c := by
  rcases h.2 with ⟨rfl, -⟩ | ⟨g, cap, cur, rfl, -⟩
  · exact ⟨_, _, _, rfl⟩
  · exact ⟨_, _, _, rfl⟩
theorem ownsRow_keep {base e sz n : Nat} {w w' : World} {v : Value} {xs : List Value} (h : w.ownsRow base e sz v n xs) (hk : ∀ k, v.ownBlock = some k → k < w.heap.size → w'.heap[k]? = w.heap[k]?) : w'.ownsRow base e sz v n xs := by
  obtain ⟨h1, h2⟩ := h
  refine ⟨h1, ?_⟩
  rcases h2 with h | ⟨g, cap, cur, hv, hb, hg, h5⟩
  · exact .inl h
  · subst hv
    exact .inr ⟨g, cap, cur, rfl, hb, by rw [hk g rfl (Array.getElem?_eq_some_iff.1 hg).1]; exact hg, h5⟩
/-- Two lists, part for part. -/
def All2 {α β : Type} (R : α → β → Prop) : List α → List β → Prop
  | [], [] => True
  | a :: l, b :: m => R a b ∧ All2 R l m
  | _, _ => False
theorem All2.imp {α β : Type} {R S : α → β → Prop} (h : ∀ a b, R a b → S a b) : ∀ {l : List α} {m : List β}, All2 R l m → All2 S l m
  | [], [], _ => trivial
  | _ :: _, _ :: _, ⟨a, b⟩ => ⟨h _ _ a, All2.imp h b⟩
  | [], _ :: _, h => h.elim
  | _ :: _, [], h => h.elim
theorem All2.length {α β : Type} {R : α → β → Prop} : ∀ {l : List α} {m : List β}, All2 R l m → l.length = m.length
  | [], [], _ => rfl
  | _ :: _, _ :: _, ⟨a, b⟩ => congrArg Nat.succ (All2.length b)
  | [], _ :: _, h => h.elim
  | _ :: _, [], h => h.elim
theorem All2.snoc {α β : Type} {R : α → β → Prop} {a : α} {b : β} (hab : R a b) : ∀ {l : List α} {m : List β}, All2 R l m → All2 R (l ++ [a]) (m ++ [b])
  | [], [], _ => ⟨hab, trivial⟩
  | _ :: _, _ :: _, ⟨x, y⟩ => ⟨x, All2.snoc hab y⟩
  | [], _ :: _, h => h.elim
  | _ :: _, [], h => h.elim
theorem All2.get {α β : Type} {R : α → β → Prop} : ∀ {l : List α} {m : List β}, All2 R l m → ∀ (i : Nat) (b : β), m[i]? = some b → ∃ a, l[i]? = some a ∧ R a b
  | _ :: _, _ :: _, ⟨x, y⟩, 0, b, h => by
    simp only [List.getElem?_cons_zero, Option.some.injEq] at h
    subst h
    exact ⟨_, rfl, x⟩
  | _ :: _, _ :: _, ⟨x, y⟩, i + 1, b, h => by
    simp only [List.getElem?_cons_succ] at h ⊢
    exact All2.get y i b h
  | [], [], _, i, b, h => by simp at h
  | [], _ :: _, h, _, _, _ => h.elim
  | _ :: _, [], h, _, _, _ => h.elim
/-- Whole places, and not too many. -/
def LnOk (d : Nat) (xs : List Nat) : Prop := ∃ p, p ≤ 100000 ∧ xs.length = p * wid d
theorem LnOk.nil (d : Nat) : LnOk d [] := ⟨0, by omega, by simp⟩
/-- A line's four cells. -/
def GLc (d : Nat) (F : Nat → Prop) (w : World) (cs : List Value) (xs : List Nat) : Prop :=
  ∃ vN, cs = [.int .i64 2, .int .i64 d, vN, .slice none 0 0] ∧ w.ownsRow 0 25 1 vN xs.length (fcells xs) ∧ (∀ k, vN.ownBlock = some k → F k) ∧ LnOk d xs
/-- The four cells of a geometry with parts. -/
def GKc {α : Type} (R : (Nat → Prop) → World → List Value → α → Prop) (k d : Nat) (F : Nat → Prop) (w : World) (cs : List Value) (l : List α) : Prop :=
  ∃ vK ccs, cs = [.int .i64 k, .int .i64 d, .slice none 0 0, vK] ∧ w.ownsRow 0 45 4 vK l.length ccs.flatten ∧ (∀ k, vK.ownBlock = some k → F k) ∧ All2 (R F w) ccs l ∧ l.length ≤ 100000
theorem ownsRow_one {base e sz n : Nat} {w : World} {v : Value} {xs : List Value} (h : w.ownsRow base e sz v n xs) : v.oneCell' = true := by
  rcases h.2 with ⟨rfl, -⟩ | ⟨g, cap, cur, rfl, -⟩ <;> rfl
theorem GLc.rep (d : Nat) : Rep (GLc d) where
  len := by rintro F w cs x ⟨vN, rfl, -⟩; rfl
  one := by
    rintro F w cs x ⟨vN, rfl, h, -⟩ u hu
    simp only [List.mem_cons, List.not_mem_nil, or_false] at hu
    rcases hu with rfl | rfl | rfl | rfl
    · rfl
    · rfl
    · exact ownsRow_one h
    · rfl
  keep := by
    rintro F w w' cs x ⟨vN, rfl, h, hF, ho⟩ hk
    exact ⟨vN, rfl, ownsRow_keep h fun k hv hl => hk k (hF k hv) hl, hF, ho⟩
  nar := by
    rintro F w cs x ⟨vN, rfl, h, hF, ho⟩
    exact ⟨vN, rfl, h, fun k hv => ⟨hF k hv, (h.lt k hv).2⟩, ho⟩
  mono := by
    rintro F F' w cs x ⟨vN, rfl, h, hF, ho⟩ hm
    exact ⟨vN, rfl, h, fun k hv => hm k (hF k hv), ho⟩
  form := by
    rintro F w cs x ⟨vN, rfl, h, hF⟩
    obtain ⟨a, n, c, rfl⟩ := ownsRow_slice h
    exact ⟨_, _, _, _, _, _, _, _, rfl⟩
theorem GKc.rep {α : Type} {R : (Nat → Prop) → World → List Value → α → Prop} (hR : Rep R) (k d : Nat) : Rep (GKc R k d) where
  len := by rintro F w cs x ⟨vN, ccs, rfl, -⟩; rfl
  one := by
    rintro F w cs x ⟨vN, ccs, rfl, h, -⟩ u hu
    simp only [List.mem_cons, List.not_mem_nil, or_false] at hu
    rcases hu with rfl | rfl | rfl | rfl
    · rfl
    · rfl
    · rfl
    · exact ownsRow_one h
  keep := by
    rintro F w w' cs x ⟨vN, ccs, rfl, h, hF, hA, ho⟩ hk
    exact ⟨vN, ccs, rfl, ownsRow_keep h fun k hv hl => hk k (hF k hv) hl, hF, All2.imp (fun a b hab => hR.keep F w w' a b hab hk) hA, ho⟩
  nar := by
    rintro F w cs x ⟨vN, ccs, rfl, h, hF, hA, ho⟩
    exact ⟨vN, ccs, rfl, h, fun k hv => ⟨hF k hv, (h.lt k hv).2⟩, All2.imp (fun a b hab => hR.nar F w a b hab) hA, ho⟩
  mono := by
    rintro F F' w cs x ⟨vN, ccs, rfl, h, hF, hA, ho⟩ hm
    exact ⟨vN, ccs, rfl, h, fun k hv => hm k (hF k hv), All2.imp (fun a b hab => hR.mono F F' w a b hab hm) hA, ho⟩
  form := by
    rintro F w cs x ⟨vN, ccs, rfl, h, hF, hA⟩
    obtain ⟨a, n, c, rfl⟩ := ownsRow_slice h
    exact ⟨_, _, _, _, _, _, _, _, rfl⟩
end Go.Proofs.YtblpcpkkjbkakaaGreatDoor
