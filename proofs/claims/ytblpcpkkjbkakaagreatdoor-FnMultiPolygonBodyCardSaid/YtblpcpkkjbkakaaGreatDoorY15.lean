/- Lemmas towards the seat's laws: 1 texts joined. -/
import Derived.Test.YtblpcpkkjbkakaaGreatDoorY14
/- The scanner's identifiers and digits. -/
namespace Go.Proofs.YtblpcpkkjbkakaaGreatDoor
open Go Go.RowKit
set_option linter.unusedVariables false
set_option linter.unusedSimpArgs false

/-- The scanner stands at the character at place p. -/
abbrev Cur (s : ByteArray) (rb B b : Nat) (F : Nat → Option Value) (p : Nat) (T : Option Nat) (w : World) : Prop := St s rb B b F (nx s p) (nl s p) T w

theorem St.cell {s : ByteArray} {rb B b : Nat} {F : Nat → Option Value} {q la : Nat} {T : Option Nat} {w : World} (h : St s rb B b F q la T w) {k : Nat} {v : Value} (hk : 1037 ≤ k) (hv : F k = some v) : w.cell? ⟨b, k, none⟩ = some v := by
  obtain ⟨R, pos, en, off, tb, hI, _, _, _, hF, _⟩ := h
  exact at_cell hI ((hF k hk).trans hv) (by omega)
theorem St.size {s : ByteArray} {rb B b : Nat} {F : Nat → Option Value} {q la : Nat} {T : Option Nat} {w : World} (h : St s rb B b F q la T w) : s.size ≤ 2000 := by
  obtain ⟨R, pos, en, off, tb, hI, hk, _⟩ := h
  exact hk.hs

theorem next_cur (s : ByteArray) (rb B b : Nat) (F : Nat → Option Value) (p : Nat) (T : Option Nat) (w : World)
    (h : Cur s rb B b F p T w) (ha : Plain s) (hG : Gl w) (hB9 : 9 ≤ B) :
    Calls Tryz.prog 86 #[.pointer (some ⟨b, 0, none⟩)] w (NextPost s rb B b F (nx s p) T w) := next_any s rb B b F _ _ T w h ha hG hB9

/-- A byte of an identifier. -/
def ident (c : UInt8) : Bool := c == 95 || isLet c || isDig c
def idents : List UInt8 → Nat
  | [] => 0
  | c :: l => if ident c then idents l + 1 else 0

theorem chr_lt {s : ByteArray} {p : Nat} (h : p < s.size) : chr s p = s[p].toNat := by unfold chr; rw [dif_pos h]
theorem chr_ge {s : ByteArray} {p : Nat} (h : ¬ p < s.size) : chr s p = -1 := by unfold chr; rw [dif_neg h]
theorem chr_bound {s : ByteArray} (hp : Plain s) (p : Nat) : -1 ≤ chr s p ∧ chr s p < 128 := by
  by_cases h : p < s.size
  · rw [chr_lt h]; have := hp p h; omega
  · rw [chr_ge h]; omega
theorem nx_lt {s : ByteArray} {p : Nat} (h : p < s.size) : nx s p = p + 1 := by unfold nx; rw [if_pos h]

theorem dec_dig {s : ByteArray} {p : Nat} (h : p < s.size) : dec (chr s p) = isDig s[p] := by
  rw [chr_lt h, Bool.eq_iff_iff, isDig_iff]; simp [dec]
theorem dec_end {s : ByteArray} {p : Nat} (h : ¬ p < s.size) : dec (chr s p) = false := by rw [chr_ge h]; rfl
theorem low_let {s : ByteArray} (hp : Plain s) {p : Nat} (h : p < s.size) : (decide (97 ≤ low (chr s p)) && decide (low (chr s p) ≤ 122)) = isLet s[p] := by
  rw [chr_lt h, Bool.eq_iff_iff, isLet_iff]
  have h1 := (low_tab s[p].toNat (hp p h).2).1
  simp only [Bool.and_eq_true, decide_eq_true_eq]
  rw [h1]; omega
theorem idr_at {s : ByteArray} (hp : Plain s) {p : Nat} (h : p < s.size) {i : Int} (hi : 0 < i) : idr (chr s p) i = ident s[p] := by
  unfold idr
  rw [low_let hp h, dec_dig h, decide_eq_true hi, Bool.and_true]
  have : decide (chr s p = 95) = (s[p] == 95) := by
    rw [Bool.eq_iff_iff, decide_eq_true_eq, beq_iff_eq, byte_eq, chr_lt h]; rfl
  rw [this]; rfl
theorem idr_end {s : ByteArray} {p : Nat} (h : ¬ p < s.size) (i : Int) : idr (chr s p) i = false := by
  rw [chr_ge h]; unfold idr; rw [low_end]; simp [dec]

def RunPost (s : ByteArray) (rb B b : Nat) (F : Nat → Option Value) (p : Nat) (T : Option Nat) (w : World) (e : Ending) (w' : World) : Prop :=
  e = .returned (.int .i32 (chr s p)) ∧ Cur s rb B b F p T w' ∧ Fr B b rb w w'

set_option maxHeartbeats 1000000 in
theorem scanIdentifier_any (s : ByteArray) (rb B b : Nat) (F : Nat → Option Value) (p : Nat) (T : Option Nat) (w : World)
    (h : Cur s rb B b F p T w) (hp : p < s.size) (ha : Plain s) (hG : Gl w) (hB9 : 9 ≤ B) (hF : F 1043 = some .nilFunc) :
    Calls Tryz.prog 89 #[.pointer (some ⟨b, 0, none⟩)] w (RunPost s rb B b F (p + 1 + idents (s.data.toList.drop (p + 1))) T w) := by
  have hs := h.size
  obtain ⟨E, hE⟩ : ∃ E, p + 1 + idents (s.data.toList.drop (p + 1)) = E := ⟨_, rfl⟩
  rw [hE]
  have H := Lib.hid h; clear h
  have HA := Lib.hid ha; clear ha
  have HG := Lib.hid hG; clear hG
  have HE := Lib.hid hE; clear hE
  go_enter Tryz.func89, Tryz.ntmps89
  go_wp2_with fail
  refine (next_cur s rb B b F p T _ H.out HA.out HG.out hB9).mono ?_
  rintro e w1 ⟨rfl, h1, f1⟩
  rw [nx_lt hp] at h1 ⊢
  have H1 := Lib.hid h1; clear h1
  have F1 := Lib.hid f1; clear f1
  go_wp2_with fail
  go_loopw [3, 4] (fun c i wr => ∃ p' : Nat, c = .int .i32 (chr s p') ∧ i = .int .i64 ((p' - p : Nat) : Int) ∧ p + 1 ≤ p' ∧ p' ≤ s.size ∧ RowKit.Hid (p' + idents (s.data.toList.drop p') = E) ∧ RowKit.Hid (Cur s rb B b F p' T wr) ∧ RowKit.Hid (Fr B b rb w wr)) (fun c i wr => s.size - (intOf i).toNat)
  case atStart => exact ⟨p + 1, rfl, by congr 1; omega, by omega, by omega, HE, H1, F1⟩
  case round =>
    obtain ⟨p', rfl, rfl, k1, k2, k3, k4, k5⟩ := hrel
    have hc := k4.out.cell (by omega) hF
    by_cases hlt : p' < s.size
    · by_cases hg : ident s[p'] = true
      · have hi : idr (chr s p') ((p' - p : Nat) : Int) = true := by rw [idr_at HA.out hlt (by omega)]; exact hg
        go_wp2_with (first | (go_at_call 88; refine (isIdentRune_c b _ _ _ hc).mono ?_; rintro e w' ⟨rfl, rfl⟩))
        refine (next_cur s rb B b F p' T _ k4.out HA.out (HG.out.keep k5.out.1 hB9) hB9).mono ?_
        rintro e w2 ⟨rfl, h2, f2⟩
        rw [nx_lt hlt] at h2 ⊢
        have H2 := Lib.hid h2; clear h2
        have F2 := Lib.hid f2; clear f2
        go_wp2_with fail
        go_round
        case rel =>
          refine ⟨p' + 1, rfl, by go_num, by omega, by omega, ?_, H2, Lib.hid (k5.out.trans F2.out)⟩
          have := k3.out
          rw [drop_at s p' hlt] at this
          simp only [idents, hg, if_true] at this
          exact Lib.hid (by omega)
        case measure => simp [intOf]; omega
      · have hi : idr (chr s p') ((p' - p : Nat) : Int) = false := by rw [idr_at HA.out hlt (by omega)]; simpa using hg
        go_wp2_with (first | (go_at_call 88; refine (isIdentRune_c b _ _ _ hc).mono ?_; rintro e w' ⟨rfl, rfl⟩))
        go_ret
        have := k3.out
        rw [drop_at s p' hlt] at this
        simp only [idents, hg, Nat.add_zero] at this
        obtain rfl : p' = E := by simpa using this
        exact ⟨rfl, k4.out, k5.out⟩
    · have hi : idr (chr s p') ((p' - p : Nat) : Int) = false := idr_end hlt _
      go_wp2_with (first | (go_at_call 88; refine (isIdentRune_c b _ _ _ hc).mono ?_; rintro e w' ⟨rfl, rfl⟩))
      go_ret
      have := k3.out
      rw [drop_end s p' (by omega)] at this
      simp only [idents, Nat.add_zero] at this
      obtain rfl : p' = E := this
      exact ⟨rfl, k4.out, k5.out⟩

end Go.Proofs.YtblpcpkkjbkakaaGreatDoor
