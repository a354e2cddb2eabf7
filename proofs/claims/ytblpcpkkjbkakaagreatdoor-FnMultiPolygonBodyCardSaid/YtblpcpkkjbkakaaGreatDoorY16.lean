/- Lemmas towards the seat's laws: 2 texts joined. -/
import Derived.Test.YtblpcpkkjbkakaaGreatDoorY15
/- The scanner's digits. -/
namespace Go.Proofs.YtblpcpkkjbkakaaGreatDoor
open Go Go.RowKit
set_option linter.unusedVariables false
set_option linter.unusedSimpArgs false

def NoBar (s : ByteArray) : Prop := ∀ i (h : i < s.size), s[i].toNat ≠ 95
theorem chr_bar {s : ByteArray} (h : NoBar s) (p : Nat) : (chr s p == 95) = false := by
  apply beq_false_of_ne
  by_cases hp : p < s.size
  · rw [chr_lt hp]; have := h p hp; omega
  · rw [chr_ge hp]; omega
def any1 (n : Nat) : Int := if n = 0 then 0 else 1
theorem or0 : bits BinOp.or IntKind.i64 0 1 = 1 := by decide +kernel
theorem or1 : bits BinOp.or IntKind.i64 1 1 = 1 := by decide +kernel
theorem or_any (n : Nat) : bits BinOp.or IntKind.i64 (any1 n) 1 = 1 := by unfold any1; split; exact or0; exact or1

def DigPost (s : ByteArray) (rb B b : Nat) (F : Nat → Option Value) (p n : Nat) (T : Option Nat) (w : World) (e : Ending) (w' : World) : Prop :=
  e = .returned (.tuple #[.int .i32 (chr s (p + n)), .int .i64 (any1 n)]) ∧ Cur s rb B b F (p + n) T w' ∧ Fr B b rb w w'

set_option maxHeartbeats 1000000 in
theorem digits10 (s : ByteArray) (rb B b : Nat) (F : Nat → Option Value) (p : Nat) (T : Option Nat) (v : Value) (w : World)
    (h : Cur s rb B b F p T w) (hp : p ≤ s.size) (ha : Plain s) (hu : NoBar s) (hG : Gl w) (hB9 : 9 ≤ B) :
    Calls Tryz.prog 117 #[.pointer (some ⟨b, 0, none⟩), .int .i32 (chr s p), .int .i64 10, v] w (DigPost s rb B b F p (digs (s.data.toList.drop p)) T w) := by
  have hs := h.size
  obtain ⟨E, hE⟩ : ∃ E, digs (s.data.toList.drop p) = E := ⟨_, rfl⟩
  rw [hE]
  have H := Lib.hid h; clear h
  have HA := Lib.hid ha; clear ha
  have HU := Lib.hid hu; clear hu
  have HG := Lib.hid hG; clear hG
  have HE := Lib.hid hE; clear hE
  go_enter Tryz.func117, Tryz.ntmps117
  go_wp2_with fail
  go_loopg [8, 9] (s.size - p) (fun k c d wr => ∃ n : Nat, c = .int .i32 (chr s (p + n)) ∧ d = .int .i64 (any1 n) ∧ p + n + k = s.size ∧ RowKit.Hid (n + digs (s.data.toList.drop (p + n)) = E) ∧ RowKit.Hid (Cur s rb B b F (p + n) T wr) ∧ RowKit.Hid (Fr B b rb w wr))
  case atStart => exact ⟨0, rfl, rfl, by omega, by have := HE.out; exact Lib.hid (by simpa using this), H, Lib.hid (Fr.refl _ _ _ _)⟩
  case round =>
    obtain ⟨n, rfl, rfl, hk, k3, k4, k5⟩ := hrel
    by_cases hg : ∃ hlt : p + n < s.size, isDig s[p + n] = true
    · obtain ⟨hlt, hg⟩ := hg
      have hd : dec (chr s (p + n)) = true := by rw [dec_dig hlt]; exact hg
      have hb := chr_bar HU.out (p + n)
      have hm : ((58 : Int) ≤ chr s (p + n)) = False := eq_false (by rw [chr_lt hlt]; have := (isDig_iff _).1 hg; omega)
      have ho := or_any n
      have HG2 := Lib.hid hg; clear hg
      go_wp2_with (first | (go_at_call 90; refine (isDecimal_c _ _).mono ?_; rintro e w' ⟨rfl, rfl⟩))
      refine (next_cur s rb B b F (p + n) T _ k4.out HA.out (HG.out.keep k5.out.1 hB9) hB9).mono ?_
      rintro e w2 ⟨rfl, h2, f2⟩
      rw [nx_lt hlt] at h2 ⊢
      have H2 := Lib.hid h2; clear h2
      have F2 := Lib.hid f2; clear f2
      go_wp2_with fail
      go_roundg (gk - 1)
      case rel =>
        refine ⟨n + 1, rfl, by simp [any1], by omega, ?_, H2, Lib.hid (k5.out.trans F2.out)⟩
        have := k3.out
        rw [drop_at s (p + n) hlt] at this
        simp only [digs, HG2.out, if_true] at this
        exact Lib.hid (by rw [← this]; show n + 1 + digs (List.drop (p + n + 1) _) = _; omega)
      case measure => omega
    · have hd : dec (chr s (p + n)) = false := by
        by_cases hlt : p + n < s.size
        · rw [dec_dig hlt]; cases h : isDig s[p + n] with | false => rfl | true => exact absurd ⟨hlt, h⟩ hg
        · exact dec_end hlt
      have hz : digs (s.data.toList.drop (p + n)) = 0 := by
        by_cases hlt : p + n < s.size
        · rw [drop_at s _ hlt]; cases h : isDig s[p + n] with | false => simp [digs, h] | true => exact absurd ⟨hlt, h⟩ hg
        · rw [drop_end s _ (by omega)]; rfl
      have hb := chr_bar HU.out (p + n)
      have HZ := Lib.hid hz; clear hz hg
      go_wp2_with (first | (go_at_call 90; refine (isDecimal_c _ _).mono ?_; rintro e w' ⟨rfl, rfl⟩))
      go_ret2
      have := k3.out
      rw [HZ.out] at this
      obtain rfl : n = E := by omega
      exact ⟨rfl, k4.out, k5.out⟩

theorem IsB.otherT {B b rb t : Nat} {R : Nat → Option Value} {tb : List UInt8} {w : World} (h : IsB B b R tb w) {c : Array Value} {fz : Nat × Nat} (hrb : w.heap[rb]? = some (.cells c t fz)) (ht : t ≠ 5) (hne : rb ≠ b) (i : Nat) (v : Value) : IsB B b R tb (w.setCell ⟨rb, i, none⟩ v) := by
  obtain ⟨hB, v0, lr, hbk, hown, hnb⟩ := h
  refine ⟨hB, v0, lr, hbk.of_heap (Below.heap_setCell _ _ _ _ (fun e => hne e.symm)), ⟨hown.1, ?_⟩, hnb⟩
  rcases hown.2 with hn | ⟨g, cap, cur, hv, hBg, hg, rest⟩
  · exact .inl hn
  · refine .inr ⟨g, cap, cur, hv, hBg, ?_, rest⟩
    rw [Below.heap_setCell _ _ _ _ (fun e => ?_)]
    · exact hg
    · subst e
      rw [hg] at hrb
      exact ht (by injection hrb with h1; injection h1 with _ h2; exact h2.symm)

theorem St.setOther {s : ByteArray} {rb B b iv t : Nat} {F : Nat → Option Value} {q la : Nat} {T : Option Nat} {w : World} (h : St s rb B b F q la T w) {c : Array Value} {fz : Nat × Nat} (hiv : w.heap[iv]? = some (.cells c t fz)) (ht : t ≠ 5) (h1 : iv ≠ b) (h2 : iv ≠ rb) (i : Nat) (v : Value) : St s rb B b F q la T (w.setCell ⟨iv, i, none⟩ v) := by
  obtain ⟨R, pos, en, off, tb, hI, hk, hT, hq, hF, hrb, hne, p, hr⟩ := h
  exact ⟨R, pos, en, off, tb, hI.otherT hiv ht h1 i v, hk, hT, hq, hF, hrb, hne, p, (Below.heap_setCell _ _ _ _ (fun e => h2 e.symm)).trans hr⟩

/-- The frame where one block more may turn. -/
def FrI (B b rb iv : Nat) (w w' : World) : Prop := Below B w w' ∧ ∀ k o, w.heap[k]? = some o → k ≠ b → k ≠ rb → k ≠ iv → (∀ c fz, o ≠ .cells c 5 fz) → w'.heap[k]? = some o
theorem FrI.refl (B b rb iv : Nat) (w : World) : FrI B b rb iv w w := ⟨Below.refl B w, fun _ _ h _ _ _ _ => h⟩
theorem FrI.step {B b rb iv : Nat} {w w1 w2 : World} (h : FrI B b rb iv w w1) (k : Fr B b rb w1 w2) : FrI B b rb iv w w2 :=
  ⟨h.1.trans k.1, fun i o hi h1 h2 h3 h4 => k.2 i o (h.2 i o hi h1 h2 h3 h4) h1 h2 h4⟩
theorem FrI.set {B b rb iv : Nat} {w w1 : World} (h : FrI B b rb iv w w1) (hB : B ≤ iv) (i : Nat) (v : Value) : FrI B b rb iv w (w1.setCell ⟨iv, i, none⟩ v) :=
  ⟨h.1.setCell (p := ⟨iv, i, none⟩) hB v, fun k o hk h1 h2 h3 h4 => by rw [Below.heap_setCell _ _ _ _ (fun e => h3 e)]; exact h.2 k o hk h1 h2 h3 h4⟩

def DigPost8 (s : ByteArray) (rb B b iv : Nat) (x : Int) (F : Nat → Option Value) (p n : Nat) (T : Option Nat) (w : World) (e : Ending) (w' : World) : Prop :=
  e = .returned (.tuple #[.int .i32 (chr s (p + n)), .int .i64 (any1 n)]) ∧ Cur s rb B b F (p + n) T w' ∧ FrI B b rb iv w w' ∧
    ∃ y : Int, w'.heap[iv]? = some (.cells #[.int .i32 y] 21 (0, 0)) ∧ (n = 0 → y = x)

set_option maxHeartbeats 1000000 in
theorem digits8 (s : ByteArray) (rb B b iv : Nat) (x : Int) (F : Nat → Option Value) (p : Nat) (T : Option Nat) (w : World)
    (h : Cur s rb B b F p T w) (hp : p ≤ s.size) (ha : Plain s) (hu : NoBar s) (hG : Gl w) (hB9 : 9 ≤ B) (hiv : w.heap[iv]? = some (.cells #[.int .i32 x] 21 (0, 0))) (hBi : B ≤ iv) (hib : iv ≠ b) (hir : iv ≠ rb) :
    Calls Tryz.prog 117 #[.pointer (some ⟨b, 0, none⟩), .int .i32 (chr s p), .int .i64 8, .pointer (some ⟨iv, 0, none⟩)] w (DigPost8 s rb B b iv x F p (digs (s.data.toList.drop p)) T w) := by
  have hs := h.size
  obtain ⟨E, hE⟩ : ∃ E, digs (s.data.toList.drop p) = E := ⟨_, rfl⟩
  rw [hE]
  have H := Lib.hid h; clear h
  have HA := Lib.hid ha; clear ha
  have HU := Lib.hid hu; clear hu
  have HG := Lib.hid hG; clear hG
  have HE := Lib.hid hE; clear hE
  have HV := Lib.hid hiv; clear hiv
  go_enter Tryz.func117, Tryz.ntmps117
  go_wp2_with fail
  go_loopg [8, 9] (s.size - p) (fun k c d wr => ∃ n : Nat, ∃ y : Int, c = .int .i32 (chr s (p + n)) ∧ d = .int .i64 (any1 n) ∧ p + n + k = s.size ∧ RowKit.Hid (n + digs (s.data.toList.drop (p + n)) = E) ∧ RowKit.Hid (Cur s rb B b F (p + n) T wr) ∧ RowKit.Hid (FrI B b rb iv w wr) ∧ RowKit.Hid (wr.heap[iv]? = some (.cells #[.int .i32 y] 21 (0, 0))) ∧ RowKit.Hid (n = 0 → y = x))
  case atStart => exact ⟨0, x, rfl, rfl, by omega, by have := HE.out; exact Lib.hid (by simpa using this), H, Lib.hid (FrI.refl _ _ _ _ _), HV, Lib.hid fun _ => rfl⟩
  case round =>
    obtain ⟨n, y, rfl, rfl, hk, k3, k4, k5, k6, k7⟩ := hrel
    by_cases hg : ∃ hlt : p + n < s.size, isDig s[p + n] = true
    · obtain ⟨hlt, hg⟩ := hg
      have hd : dec (chr s (p + n)) = true := by rw [dec_dig hlt]; exact hg
      have hb := chr_bar HU.out (p + n)
      have ho := or_any n
      have HG2 := Lib.hid hg; clear hg
      have civ : wr.cell? ⟨iv, 0, none⟩ = some (.int .i32 y) := by rw [Lib.cell_of_heap k6.out]; rfl
      have fiv := Lib.frozen_of_heap k6.out 0
      by_cases hm : (56 : Int) ≤ chr s (p + n) ∧ y = 0
      · obtain ⟨hm, rfl⟩ := hm
        have hm' : ((56 : Int) ≤ chr s (p + n)) = True := eq_true hm
        go_wp2_with (first | (go_at_call 90; refine (isDecimal_c _ _).mono ?_; rintro e w' ⟨rfl, rfl⟩))
        refine (next_cur s rb B b F (p + n) T _ (k4.out.setOther k6.out (by decide) hib hir _ _) HA.out (HG.out.keep (k5.out.set hBi 0 _).1 hB9) hB9).mono ?_
        rintro e w2 ⟨rfl, h2, f2⟩
        rw [nx_lt hlt] at h2 ⊢
        have hv2 := f2.2 iv _ (Lib.heap_setCell_same (i := 0) k6.out (.int .i32 (chr s (p + n)))) hib hir (fun c fz e => by simp at e)
        have H2 := Lib.hid h2; clear h2
        have F2 := Lib.hid f2; clear f2
        have V2 := Lib.hid hv2; clear hv2
        go_wp2_with fail
        go_roundg (gk - 1)
        case rel =>
          refine ⟨n + 1, chr s (p + n), rfl, by simp [any1], by omega, ?_, H2, Lib.hid ((k5.out.set hBi 0 _).step F2.out), V2, Lib.hid (fun h => absurd h (by omega))⟩
          have := k3.out
          rw [drop_at s (p + n) hlt] at this
          simp only [digs, HG2.out, if_true] at this
          exact Lib.hid (by rw [← this]; show n + 1 + digs (List.drop (p + n + 1) _) = _; omega)
        case measure => omega
      · have hor : (¬ (56 : Int) ≤ chr s (p + n)) ∨ ((56 : Int) ≤ chr s (p + n) ∧ ¬ y = 0) := by omega
        clear hm
        rcases hor with hm | ⟨hm, hy⟩
        all_goals
          go_wp2_with (first | (go_at_call 90; refine (isDecimal_c _ _).mono ?_; rintro e w' ⟨rfl, rfl⟩))
          refine (next_cur s rb B b F (p + n) T _ k4.out HA.out (HG.out.keep k5.out.1 hB9) hB9).mono ?_
          rintro e w2 ⟨rfl, h2, f2⟩
          rw [nx_lt hlt] at h2 ⊢
          have hv2 := f2.2 iv _ k6.out hib hir (fun c fz e => by simp at e)
          have H2 := Lib.hid h2; clear h2
          have F2 := Lib.hid f2; clear f2
          have V2 := Lib.hid hv2; clear hv2
          go_wp2_with fail
          go_roundg (gk - 1)
          case rel =>
            refine ⟨n + 1, y, rfl, by simp [any1], by omega, ?_, H2, Lib.hid (k5.out.step F2.out), V2, Lib.hid (fun h => absurd h (by omega))⟩
            have := k3.out
            rw [drop_at s (p + n) hlt] at this
            simp only [digs, HG2.out, if_true] at this
            exact Lib.hid (by rw [← this]; show n + 1 + digs (List.drop (p + n + 1) _) = _; omega)
          case measure => omega
    · have hd : dec (chr s (p + n)) = false := by
        by_cases hlt : p + n < s.size
        · rw [dec_dig hlt]; cases h : isDig s[p + n] with | false => rfl | true => exact absurd ⟨hlt, h⟩ hg
        · exact dec_end hlt
      have hz : digs (s.data.toList.drop (p + n)) = 0 := by
        by_cases hlt : p + n < s.size
        · rw [drop_at s _ hlt]; cases h : isDig s[p + n] with | false => simp [digs, h] | true => exact absurd ⟨hlt, h⟩ hg
        · rw [drop_end s _ (by omega)]; rfl
      have hb := chr_bar HU.out (p + n)
      have HZ := Lib.hid hz; clear hz hg
      go_wp2_with (first | (go_at_call 90; refine (isDecimal_c _ _).mono ?_; rintro e w' ⟨rfl, rfl⟩))
      go_ret2
      have := k3.out
      rw [HZ.out] at this
      obtain rfl : n = E := by omega
      exact ⟨rfl, k4.out, k5.out, y, k6.out, k7.out⟩

end Go.Proofs.YtblpcpkkjbkakaaGreatDoor
/- A number's parts, as the scanner goes through them. -/
namespace Go.Proofs.YtblpcpkkjbkakaaGreatDoor
open Go Go.RowKit
set_option linter.unusedVariables false
set_option linter.unusedSimpArgs false

/-- The parts of the number that begins a list: D digits, a point (dot), the mantissa's end m. -/
structure Parts (l : List UInt8) (D : Nat) (dot : Bool) (m : Nat) : Prop where
  hD : digs l = D
  hdot : (l[D]? = some 46) ↔ dot = true
  hm : m = if dot then D + 1 + digs (l.drop (D + 1)) else D
  hpos : if dot then 0 < D + digs (l.drop (D + 1)) else 0 < D
  hzero : l[0]? = some 48 → D = 1
  hexp : ((l[m]? = some 101 ∨ l[m]? = some 69) ∧ ∃ a, (a = if l[m + 1]? = some 43 ∨ l[m + 1]? = some 45 then m + 2 else m + 1) ∧ 0 < digs (l.drop a) ∧ decm l = a + digs (l.drop a)) ∨
    (decm l = m ∧ ∀ c, l[m]? = some c → isLet c = false)
  hnx : ∀ c, dot = false → l[D]? = some c → isLet c = true → c = 101 ∨ c = 69

theorem num_parts (l : List UInt8) (hn : 0 < decm l) (hpad : padd (l.take (decm l)) = false) (hend : ∀ c, l[decm l]? = some c → isLet c = false) : ∃ D dot m, Parts l D dot m := by
  have hz : l[0]? = some 48 → digs l = 1 := by
    intro h0
    have h1 : 0 < digs l := by cases l with | nil => simp at h0 | cons c r => simp at h0; subst h0; simp [digs, isDig]
    by_cases h2 : digs l = 1
    · exact h2
    · exfalso
      have h3 : digs (l.drop 1) = digs l - 1 := by
        cases l with | nil => simp at h0 | cons c r => simp at h0; subst h0; simp [digs, isDig]
      have h4 : digs l ≤ decm l := by
        unfold decm
        dsimp only
        have hd := digs_le l
        by_cases hp : l[digs l]? = some 46
        · rw [if_pos hp, if_neg (by omega)]
          have hlt := lt_of_get hp
          have := digs_le (l.drop (digs l + 1))
          simp at this
          have := (dexp_le l (digs l + 1 + digs (l.drop (digs l + 1))) (by omega)).1
          omega
        · rw [if_neg hp, if_neg (by omega)]
          exact (dexp_le l _ hd).1
      have h5 := decm_le l
      apply Bool.eq_false_iff.1 hpad
      unfold padd
      have h6 : digs ((l.take (decm l)).drop 1) = min (decm l - 1) (digs (l.drop 1)) := by rw [List.drop_take, digs_take]
      have h7 : (l.take (decm l))[0]? = some 48 := by rw [get_take_lt l (by omega)]; exact h0
      have h8 : (l.take (decm l)).length = decm l := by rw [List.length_take]; omega
      rw [h6, h7, h8]
      simp only [Bool.or_eq_true, Bool.and_eq_true, decide_eq_true_eq, beq_self_eq_true]
      left
      refine ⟨⟨by omega, ?_⟩, by omega⟩; simp
  have hx (m : Nat) (hml : m ≤ l.length) (hd : decm l = dexp l m) : ((l[m]? = some 101 ∨ l[m]? = some 69) ∧ ∃ a, (a = if l[m + 1]? = some 43 ∨ l[m + 1]? = some 45 then m + 2 else m + 1) ∧ 0 < digs (l.drop a) ∧ decm l = a + digs (l.drop a)) ∨
    (decm l = m ∧ ∀ c, l[m]? = some c → isLet c = false) := by
    by_cases he : l[m]? = some 101 ∨ l[m]? = some 69
    · obtain ⟨a, ha⟩ : ∃ a, a = (if l[m + 1]? = some 43 ∨ l[m + 1]? = some 45 then m + 2 else m + 1) := ⟨_, rfl⟩
      have hdx : dexp l m = if 0 < digs (l.drop a) then a + digs (l.drop a) else m := by unfold dexp; rw [if_pos he]; dsimp only; rw [← ha]
      by_cases hk : 0 < digs (l.drop a)
      · rw [if_pos hk] at hdx
        exact .inl ⟨he, a, ha, hk, by rw [hd, hdx]⟩
      · rw [if_neg hk] at hdx
        exfalso
        rcases he with he | he
        · have := hend 101 (by rw [hd, hdx]; exact he); simp [isLet] at this
        · have := hend 69 (by rw [hd, hdx]; exact he); simp [isLet] at this
    · have hdx : dexp l m = m := by unfold dexp; rw [if_neg he]
      exact .inr ⟨by rw [hd, hdx], fun c hc => hend c (by rw [hd, hdx]; exact hc)⟩
  have hdl := digs_le l
  by_cases hp : l[digs l]? = some 46
  · have hlt := lt_of_get hp
    have hm := digs_le (l.drop (digs l + 1))
    simp at hm
    have h0 : ¬ digs l + digs (l.drop (digs l + 1)) = 0 := by
      intro e
      have : decm l = 0 := by unfold decm; dsimp only; rw [if_pos hp, if_pos e]
      omega
    refine ⟨digs l, true, _, rfl, by simp [hp], rfl, by simp only [if_true]; omega, hz, hx _ (by simp only [if_true]; omega) ?_, fun c h => by cases h⟩
    simp only [if_true]
    conv => lhs; unfold decm
    dsimp only; rw [if_pos hp, if_neg h0]
  · have h0 : ¬ digs l = 0 := by
      intro e
      have : decm l = 0 := by unfold decm; dsimp only; rw [if_neg hp, if_pos e]
      omega
    have hd : decm l = dexp l (digs l) := by
      conv => lhs; unfold decm
      dsimp only; rw [if_neg hp, if_neg h0]
    refine ⟨digs l, false, _, rfl, by simp [hp], rfl, by simp; omega, hz, hx _ (by simp; omega) (by simpa using hd), fun c _ hc hl => ?_⟩
    rcases hx (digs l) hdl hd with ⟨he, _⟩ | ⟨_, hl2⟩
    · rw [hc] at he
      rcases he with he | he
      · left; exact Option.some.inj he
      · right; exact Option.some.inj he
    · rw [hl2 c hc] at hl; cases hl

theorem chr_beq (s : ByteArray) (q k : Nat) (hk : k < 256) : (chr s q == (k : Int)) = (s.data.toList[q]? == some (UInt8.ofNat k)) := by
  by_cases h : q < s.size
  · rw [chr_lt h]; exact get_beq s q k h hk
  · rw [chr_ge h, get_end s q (by omega)]
    rw [Bool.eq_iff_iff]
    simp only [beq_iff_eq]
    constructor
    · intro e; omega
    · intro e; cases e
theorem get_drop (s : ByteArray) (t k : Nat) : (s.data.toList.drop t)[k]? = s.data.toList[t + k]? := List.getElem?_drop
theorem digs_dd (s : ByteArray) (t k : Nat) : digs ((s.data.toList.drop t).drop k) = digs (s.data.toList.drop (t + k)) := by rw [List.drop_drop]

theorem Fr.alloc {B b rb : Nat} {w w1 : World} (h : Fr B b rb w w1) (hB : B ≤ w1.heap.size) (o : Obj) : Fr B b rb w (w1.alloc o) :=
  ⟨h.1.alloc hB o, fun k x hk h1 h2 h3 => by
    have := h.2 k x hk h1 h2 h3
    rw [Below.heap_alloc _ _ _ (by have := (Array.getElem?_eq_some_iff.1 this).1; exact this)]; exact this⟩
theorem FrI.toFr {B b rb iv : Nat} {w w1 w2 : World} (h : Fr B b rb w w1) (k : FrI B b rb iv w1 w2) (hiv : w.heap.size ≤ iv) : Fr B b rb w w2 :=
  ⟨h.1.trans k.1, fun i o hi h1 h2 h3 => k.2 i o (h.2 i o hi h1 h2 h3) h1 h2 (fun e => by subst e; have := (Array.getElem?_eq_some_iff.1 hi).1; omega) h3⟩
theorem St.alloc {s : ByteArray} {rb B b : Nat} {F : Nat → Option Value} {q la : Nat} {T : Option Nat} {w : World} (h : St s rb B b F q la T w) (o : Obj) : St s rb B b F q la T (w.alloc o) := by
  obtain ⟨R, pos, en, off, tb, hI, hk, hT, hq, hF, hrb, hne, p, hr⟩ := h
  exact ⟨R, pos, en, off, tb, hI.alloc o, hk, hT, hq, hF, hrb, hne, p, (Below.heap_alloc _ _ _ (by have := (Array.getElem?_eq_some_iff.1 hr).1; exact this)).trans hr⟩
theorem St.lt {s : ByteArray} {rb B b : Nat} {F : Nat → Option Value} {q la : Nat} {T : Option Nat} {w : World} (h : St s rb B b F q la T w) : B ≤ b ∧ b < w.heap.size ∧ rb < w.heap.size ∧ B ≤ rb ∧ rb ≠ b := by
  obtain ⟨R, pos, en, off, tb, hI, hk, hT, hq, hF, hrb, hne, p, hr⟩ := h
  exact ⟨hI.1, hI.lt, (Array.getElem?_eq_some_iff.1 hr).1, hrb, hne⟩

theorem heap_alloc_new (w : World) (o : Obj) : (w.alloc o).heap[w.heap.size]? = some o := by show (w.heap.push o)[w.heap.size]? = some o; simp

end Go.Proofs.YtblpcpkkjbkakaaGreatDoor
