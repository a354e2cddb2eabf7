/- Lemmas towards the seat's laws: 7 texts joined. -/
import Derived.Test.YtblpcpkkjbkakaaGreatDoorM03
import Derived.WalkMore
import Derived.Test.YtblpcpkkjbkakaaGreatDoorM01
/- The scanner's small tests of characters. -/
namespace Go.Proofs.YtblpcpkkjbkakaaGreatDoor
open Go Go.RowKit
set_option linter.unusedVariables false
set_option linter.unusedSimpArgs false

def low (c : Int) : Int := bits BinOp.or IntKind.i32 32 c
theorem low_tab : ∀ n : Nat, n < 128 → ((97 ≤ low n ∧ low n ≤ 122) ↔ ((97 ≤ n ∧ n ≤ 122) ∨ (65 ≤ n ∧ n ≤ 90))) ∧ (low n = 101 ↔ (n = 101 ∨ n = 69)) ∧ (low n = 112 ↔ (n = 112 ∨ n = 80)) ∧ (low n = 120 ↔ (n = 120 ∨ n = 88)) ∧ (low n = 111 ↔ (n = 111 ∨ n = 79)) ∧ (low n = 98 ↔ (n = 98 ∨ n = 66)) := by
  have h : ∀ n : Fin 128, ((97 ≤ low n.1 ∧ low n.1 ≤ 122) ↔ ((97 ≤ n.1 ∧ n.1 ≤ 122) ∨ (65 ≤ n.1 ∧ n.1 ≤ 90))) ∧ (low n.1 = 101 ↔ (n.1 = 101 ∨ n.1 = 69)) ∧ (low n.1 = 112 ↔ (n.1 = 112 ∨ n.1 = 80)) ∧ (low n.1 = 120 ↔ (n.1 = 120 ∨ n.1 = 88)) ∧ (low n.1 = 111 ↔ (n.1 = 111 ∨ n.1 = 79)) ∧ (low n.1 = 98 ↔ (n.1 = 98 ∨ n.1 = 66)) := by decide +kernel
  intro n hn
  exact h ⟨n, hn⟩
theorem low_end : low (-1) = -1 := by decide +kernel

theorem lower_c (c : Int) (w : World) : Calls Tryz.prog 116 #[.int .i32 c] w (fun e w' => e = .returned (.int .i32 (low c)) ∧ w = w') := by
  go_enter Tryz.func116, Tryz.ntmps116
  go_wp2_with fail
  go_ret
  exact ⟨rfl, rfl⟩

def dec (c : Int) : Bool := decide (48 ≤ c) && decide (c ≤ 57)
theorem isDecimal_c (c : Int) (w : World) : Calls Tryz.prog 90 #[.int .i32 c] w (fun e w' => e = .returned (.bool (dec c)) ∧ w = w') := by
  go_enter Tryz.func90, Tryz.ntmps90
  go_wp2_with fail
  all_goals go_ret
  all_goals refine ⟨?_, rfl⟩
  · rename_i h
    change Ending.returned (.bool _) = _
    simp only [dec]
    first | rw [decide_eq_false (show ¬ 48 ≤ c by omega)]; rfl | rw [decide_eq_true (show 48 ≤ c by omega)]; rfl
  · rename_i h
    change Ending.returned (.bool _) = _
    simp only [dec]
    first | rw [decide_eq_false (show ¬ 48 ≤ c by omega)]; rfl | rw [decide_eq_true (show 48 ≤ c by omega)]; rfl

def idr (c i : Int) : Bool := decide (c = 95) || (decide (97 ≤ low c) && decide (low c ≤ 122)) || (dec c && decide (0 < i))

set_option maxRecDepth 100000 in
theorem isIdentRune_c (b : Nat) (c i : Int) (w : World) (h : w.cell? ⟨b, 1043, none⟩ = some .nilFunc) :
    Calls Tryz.prog 88 #[.pointer (some ⟨b, 0, none⟩), .int .i32 c, .int .i64 i] w (fun e w' => e = .returned (.bool (idr c i)) ∧ w = w') := by
  have hnil : ∀ w : World, (binOp BinOp.neq 95 .nilFunc .nilFunc).run Tryz.prog w = .ok (.bool false) w := fun _ => by kernel_rfl
  go_enter Tryz.func88, Tryz.ntmps88
  by_cases h1 : c = 95
  · go_wp2_with (first | (go_at_call 116; refine (lower_c _ _).mono ?_; rintro e w' ⟨rfl, rfl⟩) | (go_at_call 90; refine (isDecimal_c _ _).mono ?_; rintro e w' ⟨rfl, rfl⟩))
    go_ret
    refine ⟨?_, rfl⟩
    show Ending.returned (.bool true) = _
    simp [idr, h1]
  · have h1' : (c == 95) = false := beq_false_of_ne h1
    by_cases h2 : 97 ≤ low c ∧ low c ≤ 122
    · obtain ⟨h2, h3⟩ := h2
      go_wp2_with (first | (go_at_call 116; refine (lower_c _ _).mono ?_; rintro e w' ⟨rfl, rfl⟩) | (go_at_call 90; refine (isDecimal_c _ _).mono ?_; rintro e w' ⟨rfl, rfl⟩))
      go_ret
      refine ⟨?_, rfl⟩
      show Ending.returned (.bool true) = _
      simp [idr, h1, h2, h3]
    · go_wp2_with (first | (go_at_call 116; refine (lower_c _ _).mono ?_; rintro e w' ⟨rfl, rfl⟩) | (go_at_call 90; refine (isDecimal_c _ _).mono ?_; rintro e w' ⟨rfl, rfl⟩))
      all_goals go_ret
      all_goals refine ⟨?_, rfl⟩
      all_goals change Ending.returned (.bool _) = _
      all_goals simp only [idr]
      all_goals rw [decide_eq_false h1]
      all_goals (try rename_i hd)
      all_goals first | rw [show dec c = true from hd] | rw [Bool.eq_false_iff.2 (show ¬ dec c = true from hd)]
      all_goals by_cases hl : 97 ≤ low c
      all_goals first | (rw [decide_eq_false (show ¬ low c ≤ 122 by omega)]; simp; done) | (rw [decide_eq_false hl]; simp; done) | (exfalso; omega)
end Go.Proofs.YtblpcpkkjbkakaaGreatDoor
/- The scanner's identifiers and digits. -/
namespace Go.Proofs.YtblpcpkkjbkakaaGreatDoor
open Go Go.RowKit
set_option linter.unusedVariables false
set_option linter.unusedSimpArgs false

/-- The scanner stands at the character at place p. -/
abbrev Cur (s : ByteArray) (rb B b : Nat) (F : Nat → Option Value) (p : Nat) (T : Option Nat) (w : World) : Prop := St s rb B b F (nx s p) (nl s p) T w

theorem St.cell {s : ByteArray} {rb B b : Nat} {F : Nat → Option Value} {q la : Nat} {T : Option Nat} {w : World} (h : St s rb B b F q la T w) {k : Nat} {v : Value} (hk : 1037 ≤ k) (hv : F k = some v) : w.cell? ⟨b, k, none⟩ = some v := by
  obtain ⟨R, pos, en, off, tb, hI, _, _, _, hF, _⟩ := h
  exact at_cell hI ((hF k hk).trans hv) (by omega)
theorem St.size {s : ByteArray} {rb B b : Nat} {F : Nat → Option Value} {q la : Nat} {T : Option Nat} {w : World} (h : St s rb B b F q la T w) : s.size ≤ 2000 := by
  obtain ⟨R, pos, en, off, tb, hI, hk, _⟩ := h
  exact hk.hs

theorem next_cur (s : ByteArray) (rb B b : Nat) (F : Nat → Option Value) (p : Nat) (T : Option Nat) (w : World)
    (h : Cur s rb B b F p T w) (ha : Plain s) (hG : Gl w) (hB9 : 9 ≤ B) :
    Calls Tryz.prog 86 #[.pointer (some ⟨b, 0, none⟩)] w (NextPost s rb B b F (nx s p) T w) := next_any s rb B b F _ _ T w h ha hG hB9

/-- A byte of an identifier. -/
def ident (c : UInt8) : Bool := c == 95 || isLet c || isDig c
def idents : List UInt8 → Nat
  | [] => 0
  | c :: l => if ident c then idents l + 1 else 0

theorem chr_lt {s : ByteArray} {p : Nat} (h : p < s.size) : chr s p = s[p].toNat := by unfold chr; rw [dif_pos h]
theorem chr_ge {s : ByteArray} {p : Nat} (h : ¬ p < s.size) : chr s p = -1 := by unfold chr; rw [dif_neg h]
theorem chr_bound {s : ByteArray} (hp : Plain s) (p : Nat) : -1 ≤ chr s p ∧ chr s p < 128 := by
  by_cases h : p < s.size
  · rw [chr_lt h]; have := hp p h; omega
  · rw [chr_ge h]; omega
theorem nx_lt {s : ByteArray} {p : Nat} (h : p < s.size) : nx s p = p + 1 := by unfold nx; rw [if_pos h]

theorem dec_dig {s : ByteArray} {p : Nat} (h : p < s.size) : dec (chr s p) = isDig s[p] := by
  rw [chr_lt h, Bool.eq_iff_iff, isDig_iff]; simp [dec]
theorem dec_end {s : ByteArray} {p : Nat} (h : ¬ p < s.size) : dec (chr s p) = false := by rw [chr_ge h]; rfl
theorem low_let {s : ByteArray} (hp : Plain s) {p : Nat} (h : p < s.size) : (decide (97 ≤ low (chr s p)) && decide (low (chr s p) ≤ 122)) = isLet s[p] := by
  rw [chr_lt h, Bool.eq_iff_iff, isLet_iff]
  have h1 := (low_tab s[p].toNat (hp p h).2).1
  simp only [Bool.and_eq_true, decide_eq_true_eq]
  rw [h1]; omega
theorem idr_at {s : ByteArray} (hp : Plain s) {p : Nat} (h : p < s.size) {i : Int} (hi : 0 < i) : idr (chr s p) i = ident s[p] := by
  unfold idr
  rw [low_let hp h, dec_dig h, decide_eq_true hi, Bool.and_true]
  have : decide (chr s p = 95) = (s[p] == 95) := by
    rw [Bool.eq_iff_iff, decide_eq_true_eq, beq_iff_eq, byte_eq, chr_lt h]; rfl
  rw [this]; rfl
theorem idr_end {s : ByteArray} {p : Nat} (h : ¬ p < s.size) (i : Int) : idr (chr s p) i = false := by
  rw [chr_ge h]; unfold idr; rw [low_end]; simp [dec]

def RunPost (s : ByteArray) (rb B b : Nat) (F : Nat → Option Value) (p : Nat) (T : Option Nat) (w : World) (e : Ending) (w' : World) : Prop :=
  e = .returned (.int .i32 (chr s p)) ∧ Cur s rb B b F p T w' ∧ Fr B b rb w w'

set_option maxHeartbeats 1000000 in
theorem scanIdentifier_any (s : ByteArray) (rb B b : Nat) (F : Nat → Option Value) (p : Nat) (T : Option Nat) (w : World)
    (h : Cur s rb B b F p T w) (hp : p < s.size) (ha : Plain s) (hG : Gl w) (hB9 : 9 ≤ B) (hF : F 1043 = some .nilFunc) :
    Calls Tryz.prog 89 #[.pointer (some ⟨b, 0, none⟩)] w (RunPost s rb B b F (p + 1 + idents (s.data.toList.drop (p + 1))) T w) := by
  have hs := h.size
  obtain ⟨E, hE⟩ : ∃ E, p + 1 + idents (s.data.toList.drop (p + 1)) = E := ⟨_, rfl⟩
  rw [hE]
  have H := Lib.hid h; clear h
  have HA := Lib.hid ha; clear ha
  have HG := Lib.hid hG; clear hG
  have HE := Lib.hid hE; clear hE
  go_enter Tryz.func89, Tryz.ntmps89
  go_wp2_with fail
  refine (next_cur s rb B b F p T _ H.out HA.out HG.out hB9).mono ?_
  rintro e w1 ⟨rfl, h1, f1⟩
  rw [nx_lt hp] at h1 ⊢
  have H1 := Lib.hid h1; clear h1
  have F1 := Lib.hid f1; clear f1
  go_wp2_with fail
  go_loopw [3, 4] (fun c i wr => ∃ p' : Nat, c = .int .i32 (chr s p') ∧ i = .int .i64 ((p' - p : Nat) : Int) ∧ p + 1 ≤ p' ∧ p' ≤ s.size ∧ RowKit.Hid (p' + idents (s.data.toList.drop p') = E) ∧ RowKit.Hid (Cur s rb B b F p' T wr) ∧ RowKit.Hid (Fr B b rb w wr)) (fun c i wr => s.size - (intOf i).toNat)
  case atStart => exact ⟨p + 1, rfl, by congr 1; omega, by omega, by omega, HE, H1, F1⟩
  case round =>
    obtain ⟨p', rfl, rfl, k1, k2, k3, k4, k5⟩ := hrel
    have hc := k4.out.cell (by omega) hF
    by_cases hlt : p' < s.size
    · by_cases hg : ident s[p'] = true
      · have hi : idr (chr s p') ((p' - p : Nat) : Int) = true := by rw [idr_at HA.out hlt (by omega)]; exact hg
        go_wp2_with (first | (go_at_call 88; refine (isIdentRune_c b _ _ _ hc).mono ?_; rintro e w' ⟨rfl, rfl⟩))
        refine (next_cur s rb B b F p' T _ k4.out HA.out (HG.out.keep k5.out.1 hB9) hB9).mono ?_
        rintro e w2 ⟨rfl, h2, f2⟩
        rw [nx_lt hlt] at h2 ⊢
        have H2 := Lib.hid h2; clear h2
        have F2 := Lib.hid f2; clear f2
        go_wp2_with fail
        go_round
        case rel =>
          refine ⟨p' + 1, rfl, by go_num, by omega, by omega, ?_, H2, Lib.hid (k5.out.trans F2.out)⟩
          have := k3.out
          rw [drop_at s p' hlt] at this
          simp only [idents, hg, if_true] at this
          exact Lib.hid (by omega)
        case measure => simp [intOf]; omega
      · have hi : idr (chr s p') ((p' - p : Nat) : Int) = false := by rw [idr_at HA.out hlt (by omega)]; simpa using hg
        go_wp2_with (first | (go_at_call 88; refine (isIdentRune_c b _ _ _ hc).mono ?_; rintro e w' ⟨rfl, rfl⟩))
        go_ret
        have := k3.out
        rw [drop_at s p' hlt] at this
        simp only [idents, hg, Nat.add_zero] at this
        obtain rfl : p' = E := by simpa using this
        exact ⟨rfl, k4.out, k5.out⟩
    · have hi : idr (chr s p') ((p' - p : Nat) : Int) = false := idr_end hlt _
      go_wp2_with (first | (go_at_call 88; refine (isIdentRune_c b _ _ _ hc).mono ?_; rintro e w' ⟨rfl, rfl⟩))
      go_ret
      have := k3.out
      rw [drop_end s p' (by omega)] at this
      simp only [idents, Nat.add_zero] at this
      obtain rfl : p' = E := this
      exact ⟨rfl, k4.out, k5.out⟩

end Go.Proofs.YtblpcpkkjbkakaaGreatDoor
/- The scanner's digits. -/
namespace Go.Proofs.YtblpcpkkjbkakaaGreatDoor
open Go Go.RowKit
set_option linter.unusedVariables false
set_option linter.unusedSimpArgs false

def NoBar (s : ByteArray) : Prop := ∀ i (h : i < s.size), s[i].toNat ≠ 95
theorem chr_bar {s : ByteArray} (h : NoBar s) (p : Nat) : (chr s p == 95) = false := by
  apply beq_false_of_ne
  by_cases hp : p < s.size
  · rw [chr_lt hp]; have := h p hp; omega
  · rw [chr_ge hp]; omega
def any1 (n : Nat) : Int := if n = 0 then 0 else 1
theorem or0 : bits BinOp.or IntKind.i64 0 1 = 1 := by decide +kernel
theorem or1 : bits BinOp.or IntKind.i64 1 1 = 1 := by decide +kernel
theorem or_any (n : Nat) : bits BinOp.or IntKind.i64 (any1 n) 1 = 1 := by unfold any1; split; exact or0; exact or1

def DigPost (s : ByteArray) (rb B b : Nat) (F : Nat → Option Value) (p n : Nat) (T : Option Nat) (w : World) (e : Ending) (w' : World) : Prop :=
  e = .returned (.tuple #[.int .i32 (chr s (p + n)), .int .i64 (any1 n)]) ∧ Cur s rb B b F (p + n) T w' ∧ Fr B b rb w w'

set_option maxHeartbeats 1000000 in
theorem digits10 (s : ByteArray) (rb B b : Nat) (F : Nat → Option Value) (p : Nat) (T : Option Nat) (v : Value) (w : World)
    (h : Cur s rb B b F p T w) (hp : p ≤ s.size) (ha : Plain s) (hu : NoBar s) (hG : Gl w) (hB9 : 9 ≤ B) :
    Calls Tryz.prog 117 #[.pointer (some ⟨b, 0, none⟩), .int .i32 (chr s p), .int .i64 10, v] w (DigPost s rb B b F p (digs (s.data.toList.drop p)) T w) := by
  have hs := h.size
  obtain ⟨E, hE⟩ : ∃ E, digs (s.data.toList.drop p) = E := ⟨_, rfl⟩
  rw [hE]
  have H := Lib.hid h; clear h
  have HA := Lib.hid ha; clear ha
  have HU := Lib.hid hu; clear hu
  have HG := Lib.hid hG; clear hG
  have HE := Lib.hid hE; clear hE
  go_enter Tryz.func117, Tryz.ntmps117
  go_wp2_with fail
  go_loopg [8, 9] (s.size - p) (fun k c d wr => ∃ n : Nat, c = .int .i32 (chr s (p + n)) ∧ d = .int .i64 (any1 n) ∧ p + n + k = s.size ∧ RowKit.Hid (n + digs (s.data.toList.drop (p + n)) = E) ∧ RowKit.Hid (Cur s rb B b F (p + n) T wr) ∧ RowKit.Hid (Fr B b rb w wr))
  case atStart => exact ⟨0, rfl, rfl, by omega, by have := HE.out; exact Lib.hid (by simpa using this), H, Lib.hid (Fr.refl _ _ _ _)⟩
  case round =>
    obtain ⟨n, rfl, rfl, hk, k3, k4, k5⟩ := hrel
    by_cases hg : ∃ hlt : p + n < s.size, isDig s[p + n] = true
    · obtain ⟨hlt, hg⟩ := hg
      have hd : dec (chr s (p + n)) = true := by rw [dec_dig hlt]; exact hg
      have hb := chr_bar HU.out (p + n)
      have hm : ((58 : Int) ≤ chr s (p + n)) = False := eq_false (by rw [chr_lt hlt]; have := (isDig_iff _).1 hg; omega)
      have ho := or_any n
      have HG2 := Lib.hid hg; clear hg
      go_wp2_with (first | (go_at_call 90; refine (isDecimal_c _ _).mono ?_; rintro e w' ⟨rfl, rfl⟩))
      refine (next_cur s rb B b F (p + n) T _ k4.out HA.out (HG.out.keep k5.out.1 hB9) hB9).mono ?_
      rintro e w2 ⟨rfl, h2, f2⟩
      rw [nx_lt hlt] at h2 ⊢
      have H2 := Lib.hid h2; clear h2
      have F2 := Lib.hid f2; clear f2
      go_wp2_with fail
      go_roundg (gk - 1)
      case rel =>
        refine ⟨n + 1, rfl, by simp [any1], by omega, ?_, H2, Lib.hid (k5.out.trans F2.out)⟩
        have := k3.out
        rw [drop_at s (p + n) hlt] at this
        simp only [digs, HG2.out, if_true] at this
        exact Lib.hid (by rw [← this]; show n + 1 + digs (List.drop (p + n + 1) _) = _; omega)
      case measure => omega
    · have hd : dec (chr s (p + n)) = false := by
        by_cases hlt : p + n < s.size
        · rw [dec_dig hlt]; cases h : isDig s[p + n] with | false => rfl | true => exact absurd ⟨hlt, h⟩ hg
        · exact dec_end hlt
      have hz : digs (s.data.toList.drop (p + n)) = 0 := by
        by_cases hlt : p + n < s.size
        · rw [drop_at s _ hlt]; cases h : isDig s[p + n] with | false => simp [digs, h] | true => exact absurd ⟨hlt, h⟩ hg
        · rw [drop_end s _ (by omega)]; rfl
      have hb := chr_bar HU.out (p + n)
      have HZ := Lib.hid hz; clear hz hg
      go_wp2_with (first | (go_at_call 90; refine (isDecimal_c _ _).mono ?_; rintro e w' ⟨rfl, rfl⟩))
      go_ret2
      have := k3.out
      rw [HZ.out] at this
      obtain rfl : n = E := by omega
      exact ⟨rfl, k4.out, k5.out⟩

theorem IsB.otherT {B b rb t : Nat} {R : Nat → Option Value} {tb : List UInt8} {w : World} (h : IsB B b R tb w) {c : Array Value} {fz : Nat × Nat} (hrb : w.heap[rb]? = some (.cells c t fz)) (ht : t ≠ 5) (hne : rb ≠ b) (i : Nat) (v : Value) : IsB B b R tb (w.setCell ⟨rb, i, none⟩ v) := by
  obtain ⟨hB, v0, lr, hbk, hown, hnb⟩ := h
  refine ⟨hB, v0, lr, hbk.of_heap (Below.heap_setCell _ _ _ _ (fun e => hne e.symm)), ⟨hown.1, ?_⟩, hnb⟩
  rcases hown.2 with hn | ⟨g, cap, cur, hv, hBg, hg, rest⟩
  · exact .inl hn
  · refine .inr ⟨g, cap, cur, hv, hBg, ?_, rest⟩
    rw [Below.heap_setCell _ _ _ _ (fun e => ?_)]
    · exact hg
    · subst e
      rw [hg] at hrb
      exact ht (by injection hrb with h1; injection h1 with _ h2; exact h2.symm)

theorem St.setOther {s : ByteArray} {rb B b iv t : Nat} {F : Nat → Option Value} {q la : Nat} {T : Option Nat} {w : World} (h : St s rb B b F q la T w) {c : Array Value} {fz : Nat × Nat} (hiv : w.heap[iv]? = some (.cells c t fz)) (ht : t ≠ 5) (h1 : iv ≠ b) (h2 : iv ≠ rb) (i : Nat) (v : Value) : St s rb B b F q la T (w.setCell ⟨iv, i, none⟩ v) := by
  obtain ⟨R, pos, en, off, tb, hI, hk, hT, hq, hF, hrb, hne, p, hr⟩ := h
  exact ⟨R, pos, en, off, tb, hI.otherT hiv ht h1 i v, hk, hT, hq, hF, hrb, hne, p, (Below.heap_setCell _ _ _ _ (fun e => h2 e.symm)).trans hr⟩

/-- The frame where one block more may turn. -/
def FrI (B b rb iv : Nat) (w w' : World) : Prop := Below B w w' ∧ ∀ k o, w.heap[k]? = some o → k ≠ b → k ≠ rb → k ≠ iv → (∀ c fz, o ≠ .cells c 5 fz) → w'.heap[k]? = some o
theorem FrI.refl (B b rb iv : Nat) (w : World) : FrI B b rb iv w w := ⟨Below.refl B w, fun _ _ h _ _ _ _ => h⟩
theorem FrI.step {B b rb iv : Nat} {w w1 w2 : World} (h : FrI B b rb iv w w1) (k : Fr B b rb w1 w2) : FrI B b rb iv w w2 :=
  ⟨h.1.trans k.1, fun i o hi h1 h2 h3 h4 => k.2 i o (h.2 i o hi h1 h2 h3 h4) h1 h2 h4⟩
theorem FrI.set {B b rb iv : Nat} {w w1 : World} (h : FrI B b rb iv w w1) (hB : B ≤ iv) (i : Nat) (v : Value) : FrI B b rb iv w (w1.setCell ⟨iv, i, none⟩ v) :=
  ⟨h.1.setCell (p := ⟨iv, i, none⟩) hB v, fun k o hk h1 h2 h3 h4 => by rw [Below.heap_setCell _ _ _ _ (fun e => h3 e)]; exact h.2 k o hk h1 h2 h3 h4⟩

def DigPost8 (s : ByteArray) (rb B b iv : Nat) (x : Int) (F : Nat → Option Value) (p n : Nat) (T : Option Nat) (w : World) (e : Ending) (w' : World) : Prop :=
  e = .returned (.tuple #[.int .i32 (chr s (p + n)), .int .i64 (any1 n)]) ∧ Cur s rb B b F (p + n) T w' ∧ FrI B b rb iv w w' ∧
    ∃ y : Int, w'.heap[iv]? = some (.cells #[.int .i32 y] 21 (0, 0)) ∧ (n = 0 → y = x)

set_option maxHeartbeats 1000000 in
theorem digits8 (s : ByteArray) (rb B b iv : Nat) (x : Int) (F : Nat → Option Value) (p : Nat) (T : Option Nat) (w : World)
    (h : Cur s rb B b F p T w) (hp : p ≤ s.size) (ha : Plain s) (hu : NoBar s) (hG : Gl w) (hB9 : 9 ≤ B) (hiv : w.heap[iv]? = some (.cells #[.int .i32 x] 21 (0, 0))) (hBi : B ≤ iv) (hib : iv ≠ b) (hir : iv ≠ rb) :
    Calls Tryz.prog 117 #[.pointer (some ⟨b, 0, none⟩), .int .i32 (chr s p), .int .i64 8, .pointer (some ⟨iv, 0, none⟩)] w (DigPost8 s rb B b iv x F p (digs (s.data.toList.drop p)) T w) := by
  have hs := h.size
  obtain ⟨E, hE⟩ : ∃ E, digs (s.data.toList.drop p) = E := ⟨_, rfl⟩
  rw [hE]
  have H := Lib.hid h; clear h
  have HA := Lib.hid ha; clear ha
  have HU := Lib.hid hu; clear hu
  have HG := Lib.hid hG; clear hG
  have HE := Lib.hid hE; clear hE
  have HV := Lib.hid hiv; clear hiv
  go_enter Tryz.func117, Tryz.ntmps117
  go_wp2_with fail
  go_loopg [8, 9] (s.size - p) (fun k c d wr => ∃ n : Nat, ∃ y : Int, c = .int .i32 (chr s (p + n)) ∧ d = .int .i64 (any1 n) ∧ p + n + k = s.size ∧ RowKit.Hid (n + digs (s.data.toList.drop (p + n)) = E) ∧ RowKit.Hid (Cur s rb B b F (p + n) T wr) ∧ RowKit.Hid (FrI B b rb iv w wr) ∧ RowKit.Hid (wr.heap[iv]? = some (.cells #[.int .i32 y] 21 (0, 0))) ∧ RowKit.Hid (n = 0 → y = x))
  case atStart => exact ⟨0, x, rfl, rfl, by omega, by have := HE.out; exact Lib.hid (by simpa using this), H, Lib.hid (FrI.refl _ _ _ _ _), HV, Lib.hid fun _ => rfl⟩
  case round =>
    obtain ⟨n, y, rfl, rfl, hk, k3, k4, k5, k6, k7⟩ := hrel
    by_cases hg : ∃ hlt : p + n < s.size, isDig s[p + n] = true
    · obtain ⟨hlt, hg⟩ := hg
      have hd : dec (chr s (p + n)) = true := by rw [dec_dig hlt]; exact hg
      have hb := chr_bar HU.out (p + n)
      have ho := or_any n
      have HG2 := Lib.hid hg; clear hg
      have civ : wr.cell? ⟨iv, 0, none⟩ = some (.int .i32 y) := by rw [Lib.cell_of_heap k6.out]; rfl
      have fiv := Lib.frozen_of_heap k6.out 0
      by_cases hm : (56 : Int) ≤ chr s (p + n) ∧ y = 0
      · obtain ⟨hm, rfl⟩ := hm
        have hm' : ((56 : Int) ≤ chr s (p + n)) = True := eq_true hm
        go_wp2_with (first | (go_at_call 90; refine (isDecimal_c _ _).mono ?_; rintro e w' ⟨rfl, rfl⟩))
        refine (next_cur s rb B b F (p + n) T _ (k4.out.setOther k6.out (by decide) hib hir _ _) HA.out (HG.out.keep (k5.out.set hBi 0 _).1 hB9) hB9).mono ?_
        rintro e w2 ⟨rfl, h2, f2⟩
        rw [nx_lt hlt] at h2 ⊢
        have hv2 := f2.2 iv _ (Lib.heap_setCell_same (i := 0) k6.out (.int .i32 (chr s (p + n)))) hib hir (fun c fz e => by simp at e)
        have H2 := Lib.hid h2; clear h2
        have F2 := Lib.hid f2; clear f2
        have V2 := Lib.hid hv2; clear hv2
        go_wp2_with fail
        go_roundg (gk - 1)
        case rel =>
          refine ⟨n + 1, chr s (p + n), rfl, by simp [any1], by omega, ?_, H2, Lib.hid ((k5.out.set hBi 0 _).step F2.out), V2, Lib.hid (fun h => absurd h (by omega))⟩
          have := k3.out
          rw [drop_at s (p + n) hlt] at this
          simp only [digs, HG2.out, if_true] at this
          exact Lib.hid (by rw [← this]; show n + 1 + digs (List.drop (p + n + 1) _) = _; omega)
        case measure => omega
      · have hor : (¬ (56 : Int) ≤ chr s (p + n)) ∨ ((56 : Int) ≤ chr s (p + n) ∧ ¬ y = 0) := by omega
        clear hm
        rcases hor with hm | ⟨hm, hy⟩
        all_goals
          go_wp2_with (first | (go_at_call 90; refine (isDecimal_c _ _).mono ?_; rintro e w' ⟨rfl, rfl⟩))
          refine (next_cur s rb B b F (p + n) T _ k4.out HA.out (HG.out.keep k5.out.1 hB9) hB9).mono ?_
          rintro e w2 ⟨rfl, h2, f2⟩
          rw [nx_lt hlt] at h2 ⊢
          have hv2 := f2.2 iv _ k6.out hib hir (fun c fz e => by simp at e)
          have H2 := Lib.hid h2; clear h2
          have F2 := Lib.hid f2; clear f2
          have V2 := Lib.hid hv2; clear hv2
          go_wp2_with fail
          go_roundg (gk - 1)
          case rel =>
            refine ⟨n + 1, y, rfl, by simp [any1], by omega, ?_, H2, Lib.hid (k5.out.step F2.out), V2, Lib.hid (fun h => absurd h (by omega))⟩
            have := k3.out
            rw [drop_at s (p + n) hlt] at this
            simp only [digs, HG2.out, if_true] at this
            exact Lib.hid (by rw [← this]; show n + 1 + digs (List.drop (p + n + 1) _) = _; omega)
          case measure => omega
    · have hd : dec (chr s (p + n)) = false := by
        by_cases hlt : p + n < s.size
        · rw [dec_dig hlt]; cases h : isDig s[p + n] with | false => rfl | true => exact absurd ⟨hlt, h⟩ hg
        · exact dec_end hlt
      have hz : digs (s.data.toList.drop (p + n)) = 0 := by
        by_cases hlt : p + n < s.size
        · rw [drop_at s _ hlt]; cases h : isDig s[p + n] with | false => simp [digs, h] | true => exact absurd ⟨hlt, h⟩ hg
        · rw [drop_end s _ (by omega)]; rfl
      have hb := chr_bar HU.out (p + n)
      have HZ := Lib.hid hz; clear hz hg
      go_wp2_with (first | (go_at_call 90; refine (isDecimal_c _ _).mono ?_; rintro e w' ⟨rfl, rfl⟩))
      go_ret2
      have := k3.out
      rw [HZ.out] at this
      obtain rfl : n = E := by omega
      exact ⟨rfl, k4.out, k5.out, y, k6.out, k7.out⟩

end Go.Proofs.YtblpcpkkjbkakaaGreatDoor
/- A number's parts, as the scanner goes through them. -/
namespace Go.Proofs.YtblpcpkkjbkakaaGreatDoor
open Go Go.RowKit
set_option linter.unusedVariables false
set_option linter.unusedSimpArgs false

/-- The parts of the number that begins a list: D digits, a point (dot), the mantissa's end m. -/
structure Parts (l : List UInt8) (D : Nat) (dot : Bool) (m : Nat) : Prop where
  hD : digs l = D
  hdot : (l[D]? = some 46) ↔ dot = true
  hm : m = if dot then D + 1 + digs (l.drop (D + 1)) else D
  hpos : if dot then 0 < D + digs (l.drop (D + 1)) else 0 < D
  hzero : l[0]? = some 48 → D = 1
  hexp : ((l[m]? = some 101 ∨ l[m]? = some 69) ∧ ∃ a, (a = if l[m + 1]? = some 43 ∨ l[m + 1]? = some 45 then m + 2 else m + 1) ∧ 0 < digs (l.drop a) ∧ decm l = a + digs (l.drop a)) ∨
    (decm l = m ∧ ∀ c, l[m]? = some c → isLet c = false)
  hnx : ∀ c, dot = false → l[D]? = some c → isLet c = true → c = 101 ∨ c = 69

theorem num_parts (l : List UInt8) (hn : 0 < decm l) (hpad : padd (l.take (decm l)) = false) (hend : ∀ c, l[decm l]? = some c → isLet c = false) : ∃ D dot m, Parts l D dot m := by
  have hz : l[0]? = some 48 → digs l = 1 := by
    intro h0
    have h1 : 0 < digs l := by cases l with | nil => simp at h0 | cons c r => simp at h0; subst h0; simp [digs, isDig]
    by_cases h2 : digs l = 1
    · exact h2
    · exfalso
      have h3 : digs (l.drop 1) = digs l - 1 := by
        cases l with | nil => simp at h0 | cons c r => simp at h0; subst h0; simp [digs, isDig]
      have h4 : digs l ≤ decm l := by
        unfold decm
        dsimp only
        have hd := digs_le l
        by_cases hp : l[digs l]? = some 46
        · rw [if_pos hp, if_neg (by omega)]
          have hlt := lt_of_get hp
          have := digs_le (l.drop (digs l + 1))
          simp at this
          have := (dexp_le l (digs l + 1 + digs (l.drop (digs l + 1))) (by omega)).1
          omega
        · rw [if_neg hp, if_neg (by omega)]
          exact (dexp_le l _ hd).1
      have h5 := decm_le l
      apply Bool.eq_false_iff.1 hpad
      unfold padd
      have h6 : digs ((l.take (decm l)).drop 1) = min (decm l - 1) (digs (l.drop 1)) := by rw [List.drop_take, digs_take]
      have h7 : (l.take (decm l))[0]? = some 48 := by rw [get_take_lt l (by omega)]; exact h0
      have h8 : (l.take (decm l)).length = decm l := by rw [List.length_take]; omega
      rw [h6, h7, h8]
      simp only [Bool.or_eq_true, Bool.and_eq_true, decide_eq_true_eq, beq_self_eq_true]
      left
      refine ⟨⟨by omega, ?_⟩, by omega⟩; simp
  have hx (m : Nat) (hml : m ≤ l.length) (hd : decm l = dexp l m) : ((l[m]? = some 101 ∨ l[m]? = some 69) ∧ ∃ a, (a = if l[m + 1]? = some 43 ∨ l[m + 1]? = some 45 then m + 2 else m + 1) ∧ 0 < digs (l.drop a) ∧ decm l = a + digs (l.drop a)) ∨
    (decm l = m ∧ ∀ c, l[m]? = some c → isLet c = false) := by
    by_cases he : l[m]? = some 101 ∨ l[m]? = some 69
    · obtain ⟨a, ha⟩ : ∃ a, a = (if l[m + 1]? = some 43 ∨ l[m + 1]? = some 45 then m + 2 else m + 1) := ⟨_, rfl⟩
      have hdx : dexp l m = if 0 < digs (l.drop a) then a + digs (l.drop a) else m := by unfold dexp; rw [if_pos he]; dsimp only; rw [← ha]
      by_cases hk : 0 < digs (l.drop a)
      · rw [if_pos hk] at hdx
        exact .inl ⟨he, a, ha, hk, by rw [hd, hdx]⟩
      · rw [if_neg hk] at hdx
        exfalso
        rcases he with he | he
        · have := hend 101 (by rw [hd, hdx]; exact he); simp [isLet] at this
        · have := hend 69 (by rw [hd, hdx]; exact he); simp [isLet] at this
    · have hdx : dexp l m = m := by unfold dexp; rw [if_neg he]
      exact .inr ⟨by rw [hd, hdx], fun c hc => hend c (by rw [hd, hdx]; exact hc)⟩
  have hdl := digs_le l
  by_cases hp : l[digs l]? = some 46
  · have hlt := lt_of_get hp
    have hm := digs_le (l.drop (digs l + 1))
    simp at hm
    have h0 : ¬ digs l + digs (l.drop (digs l + 1)) = 0 := by
      intro e
      have : decm l = 0 := by unfold decm; dsimp only; rw [if_pos hp, if_pos e]
      omega
    refine ⟨digs l, true, _, rfl, by simp [hp], rfl, by simp only [if_true]; omega, hz, hx _ (by simp only [if_true]; omega) ?_, fun c h => by cases h⟩
    simp only [if_true]
    conv => lhs; unfold decm
    dsimp only; rw [if_pos hp, if_neg h0]
  · have h0 : ¬ digs l = 0 := by
      intro e
      have : decm l = 0 := by unfold decm; dsimp only; rw [if_neg hp, if_pos e]
      omega
    have hd : decm l = dexp l (digs l) := by
      conv => lhs; unfold decm
      dsimp only; rw [if_neg hp, if_neg h0]
    refine ⟨digs l, false, _, rfl, by simp [hp], rfl, by simp; omega, hz, hx _ (by simp; omega) (by simpa using hd), fun c _ hc hl => ?_⟩
    rcases hx (digs l) hdl hd with ⟨he, _⟩ | ⟨_, hl2⟩
    · rw [hc] at he
      rcases he with he | he
      · left; exact Option.some.inj he
      · right; exact Option.some.inj he
    · rw [hl2 c hc] at hl; cases hl

theorem chr_beq (s : ByteArray) (q k : Nat) (hk : k < 256) : (chr s q == (k : Int)) = (s.data.toList[q]? == some (UInt8.ofNat k)) := by
  by_cases h : q < s.size
  · rw [chr_lt h]; exact get_beq s q k h hk
  · rw [chr_ge h, get_end s q (by omega)]
    rw [Bool.eq_iff_iff]
    simp only [beq_iff_eq]
    constructor
    · intro e; omega
    · intro e; cases e
theorem get_drop (s : ByteArray) (t k : Nat) : (s.data.toList.drop t)[k]? = s.data.toList[t + k]? := List.getElem?_drop
theorem digs_dd (s : ByteArray) (t k : Nat) : digs ((s.data.toList.drop t).drop k) = digs (s.data.toList.drop (t + k)) := by rw [List.drop_drop]

theorem Fr.alloc {B b rb : Nat} {w w1 : World} (h : Fr B b rb w w1) (hB : B ≤ w1.heap.size) (o : Obj) : Fr B b rb w (w1.alloc o) :=
  ⟨h.1.alloc hB o, fun k x hk h1 h2 h3 => by
    have := h.2 k x hk h1 h2 h3
    rw [Below.heap_alloc _ _ _ (by have := (Array.getElem?_eq_some_iff.1 this).1; exact this)]; exact this⟩
theorem FrI.toFr {B b rb iv : Nat} {w w1 w2 : World} (h : Fr B b rb w w1) (k : FrI B b rb iv w1 w2) (hiv : w.heap.size ≤ iv) : Fr B b rb w w2 :=
  ⟨h.1.trans k.1, fun i o hi h1 h2 h3 => k.2 i o (h.2 i o hi h1 h2 h3) h1 h2 (fun e => by subst e; have := (Array.getElem?_eq_some_iff.1 hi).1; omega) h3⟩
theorem St.alloc {s : ByteArray} {rb B b : Nat} {F : Nat → Option Value} {q la : Nat} {T : Option Nat} {w : World} (h : St s rb B b F q la T w) (o : Obj) : St s rb B b F q la T (w.alloc o) := by
  obtain ⟨R, pos, en, off, tb, hI, hk, hT, hq, hF, hrb, hne, p, hr⟩ := h
  exact ⟨R, pos, en, off, tb, hI.alloc o, hk, hT, hq, hF, hrb, hne, p, (Below.heap_alloc _ _ _ (by have := (Array.getElem?_eq_some_iff.1 hr).1; exact this)).trans hr⟩
theorem St.lt {s : ByteArray} {rb B b : Nat} {F : Nat → Option Value} {q la : Nat} {T : Option Nat} {w : World} (h : St s rb B b F q la T w) : B ≤ b ∧ b < w.heap.size ∧ rb < w.heap.size ∧ B ≤ rb ∧ rb ≠ b := by
  obtain ⟨R, pos, en, off, tb, hI, hk, hT, hq, hF, hrb, hne, p, hr⟩ := h
  exact ⟨hI.1, hI.lt, (Array.getElem?_eq_some_iff.1 hr).1, hrb, hne⟩

theorem heap_alloc_new (w : World) (o : Obj) : (w.alloc o).heap[w.heap.size]? = some o := by show (w.heap.push o)[w.heap.size]? = some o; simp

end Go.Proofs.YtblpcpkkjbkakaaGreatDoor
/- The scanner's state: cells set; Peek. -/
namespace Go.Proofs.YtblpcpkkjbkakaaGreatDoor
open Go Go.RowKit
set_option linter.unusedVariables false
set_option linter.unusedSimpArgs false

theorem Ok.same {s : ByteArray} {rb : Nat} {R R' : Nat → Option Value} {pos en off la : Nat} (h : Ok s rb R pos en off la) (hR : ∀ k, k < 1036 → R' k = R k) : Ok s rb R' pos en off la where
  src := (hR 0 (by omega)).trans h.src
  buf := fun i hi => by obtain ⟨x, hx⟩ := h.buf i hi; exact ⟨x, (hR _ (by omega)).trans hx⟩
  own := fun j hj => by obtain ⟨x, hx⟩ := h.own j hj; exact ⟨x, (hR _ (by have := h.hen; omega)).trans hx⟩
  guard := (hR _ (by have := h.hen; omega)).trans h.guard
  cpos := (hR _ (by omega)).trans h.cpos
  cen := (hR _ (by omega)).trans h.cen
  coff := (hR _ (by omega)).trans h.coff
  cline := by obtain ⟨x, hx⟩ := h.cline; exact ⟨x, (hR _ (by omega)).trans hx⟩
  ccol := by obtain ⟨x, hx⟩ := h.ccol; exact ⟨x, (hR _ (by omega)).trans hx⟩
  clast := by obtain ⟨x, hx⟩ := h.clast; exact ⟨x, (hR _ (by omega)).trans hx⟩
  cla := (hR _ (by omega)).trans h.cla
  hpos := h.hpos
  hen := h.hen
  hoff := h.hoff
  hs := h.hs
  hla := h.hla
  hla1 := h.hla1

theorem Tk.same {s : ByteArray} {R R' : Nat → Option Value} {tb : List UInt8} {pos off : Nat} {T : Option Nat} (h : Tk s R tb pos off T) (e : R' 1036 = R 1036) : Tk s R' tb pos off T := by
  cases T with
  | none => exact e.trans h
  | some t => obtain ⟨tp, h1, h2⟩ := h; exact ⟨tp, e.trans h1, h2⟩

theorem St.set {s : ByteArray} {rb B b : Nat} {F : Nat → Option Value} {q la : Nat} {T : Option Nat} {w : World} (h : St s rb B b F q la T w) (k : Nat) (hk : 1037 ≤ k) (hold : (F k).isSome = true) (v : Value) : St s rb B b (upd F k v) q la T (w.setCell ⟨b, k, none⟩ v) := by
  obtain ⟨R, pos, en, off, tb, hI, hok, hT, hq, hF, hrb, hne, p, hr⟩ := h
  refine ⟨upd R k v, pos, en, off, tb, hI.set k (by omega) (by rw [hF k hk]; exact hold) v, hok.same (fun j hj => upd_ne _ _ _ _ (by omega)), hT.same (upd_ne _ _ _ _ (by omega)), hq, fun j hj => ?_, hrb, hne, p, (Below.heap_setCell _ _ _ _ hne).trans hr⟩
  unfold upd
  split
  · rfl
  · exact hF j hj
theorem St.frozen {s : ByteArray} {rb B b : Nat} {F : Nat → Option Value} {q la : Nat} {T : Option Nat} {w : World} (h : St s rb B b F q la T w) (k : Nat) : w.frozen? ⟨b, k, none⟩ = false := by
  obtain ⟨R, pos, en, off, tb, hI, _⟩ := h
  exact hI.notFrozen k
theorem St.drewN {s : ByteArray} {rb B b : Nat} {F : Nat → Option Value} {q la : Nat} {T : Option Nat} {w : World} (h : St s rb B b F q la T w) (n : Nat) : St s rb B b F q la T (w.drewN n) := by
  obtain ⟨R, pos, en, off, tb, hI, h⟩ := h
  exact ⟨R, pos, en, off, tb, hI.drewN n, h⟩
/-- The token under way is let go. -/
theorem St.noTok {s : ByteArray} {rb B b : Nat} {F : Nat → Option Value} {q la : Nat} {T : Option Nat} {w : World} (h : St s rb B b F q la T w) : St s rb B b F q la none (w.setCell ⟨b, 1036, none⟩ (.int .i64 (-1))) := by
  obtain ⟨R, pos, en, off, tb, hI, hok, hT, hq, hF, hrb, hne, p, hr⟩ := h
  have hold : (R 1036).isSome = true := by
    cases T with
    | none => rw [show R 1036 = _ from hT]; rfl
    | some t => obtain ⟨tp, h1, _⟩ := hT; rw [h1]; rfl
  exact ⟨upd R 1036 (.int .i64 (-1)), pos, en, off, tb, hI.set 1036 (by omega) hold _, hok.same (fun j hj => upd_ne _ _ _ _ (by omega)), upd_at _ _ _, hq, fun j hj => (upd_ne _ _ _ _ (by omega)).trans (hF j hj), hrb, hne, p, (Below.heap_setCell _ _ _ _ hne).trans hr⟩
theorem St.c1036 {s : ByteArray} {rb B b : Nat} {F : Nat → Option Value} {q la : Nat} {T : Option Nat} {w : World} (h : St s rb B b F q la T w) : ∃ x : Int, w.cell? ⟨b, 1036, none⟩ = some (.int .i64 x) := by
  obtain ⟨R, pos, en, off, tb, hI, hok, hT, _⟩ := h
  cases T with
  | none => exact ⟨_, at_cell hI hT (by omega)⟩
  | some t => obtain ⟨tp, h1, _⟩ := hT; exact ⟨_, at_cell hI h1 (by omega)⟩

theorem Fr.trans' {B b rb : Nat} {w w1 w2 : World} (h : Fr B b rb w w1) (k : Fr B b rb w1 w2) : Fr B b rb w w2 := h.trans k

/-- The scanner is ready: it stands at the character p, or it has not begun. -/
def Rdy (s : ByteArray) (rb B b : Nat) (F : Nat → Option Value) (p : Nat) (w : World) : Prop :=
  (p = 0 ∧ F 1038 = some (.int .i32 (-2)) ∧ ∃ T, St s rb B b F 0 0 T w) ∨ (F 1038 = some (.int .i32 (chr s p)) ∧ ∃ T, Cur s rb B b F p T w)

def PeekPost (s : ByteArray) (rb B b : Nat) (F : Nat → Option Value) (p : Nat) (w : World) (e : Ending) (w' : World) : Prop :=
  e = .returned (.int .i32 (chr s p)) ∧ (∃ F', (∀ k, k ≠ 1038 → F' k = F k) ∧ (F' 1038).isSome = true ∧ ∃ T, Cur s rb B b F' p T w') ∧ Fr B b rb w w'

set_option maxRecDepth 100000 in
set_option maxHeartbeats 1000000 in
theorem peek_any (s : ByteArray) (rb B b : Nat) (F : Nat → Option Value) (p : Nat) (w : World) (h : Rdy s rb B b F p w) (ha : Plain s) (hG : Gl w) (hB9 : 9 ≤ B) :
    Calls Tryz.prog 85 #[.pointer (some ⟨b, 0, none⟩)] w (PeekPost s rb B b F p w) := by
  have hcb := chr_bound ha p
  have hcb0 := chr_bound ha 0
  have HA := Lib.hid ha; clear ha
  have HG := Lib.hid hG; clear hG
  rcases h with ⟨rfl, hc, T, h⟩ | ⟨hc, T, h⟩
  · have c38 := h.cell (by omega) hc
    have f38 := h.frozen 1038
    have hB := h.lt.1
    have H := Lib.hid h; clear h
    have HC := Lib.hid hc; clear hc
    have hbm : (chr s 0 == 65279) = false := beq_false_of_ne (by omega)
    clear hcb
    go_enter Tryz.func85, Tryz.ntmps85
    go_wp2_with fail
    refine (next_any s rb B b F 0 0 T _ H.out HA.out HG.out hB9).mono ?_
    rintro e w2 ⟨rfl, h2, f2⟩
    have c38' := h2.cell (by omega) HC.out
    have f38' := h2.frozen 1038
    have H2 := Lib.hid h2; clear h2
    have F2 := Lib.hid f2; clear f2
    go_wp2_with fail
    go_ret
    refine ⟨rfl, ⟨_, ?_, ?_, T, H2.out.set 1038 (by omega) (by rw [HC.out]; rfl) _⟩, F2.out.set hB _ _⟩
    · intro k hk; exact upd_ne _ _ _ _ hk
    · rw [upd_at]; rfl
  · have c38 := h.cell (by omega) hc
    have hne2 : (chr s p == -2) = false := beq_false_of_ne (by omega)
    have H := Lib.hid h; clear h
    have HC := Lib.hid hc; clear hc
    clear hcb hcb0
    go_enter Tryz.func85, Tryz.ntmps85
    go_wp2_with fail
    go_ret
    exact ⟨rfl, ⟨F, fun _ _ => rfl, by rw [HC.out]; rfl, T, H.out⟩, Fr.refl _ _ _ _⟩

end Go.Proofs.YtblpcpkkjbkakaaGreatDoor
/- Scan: what its parts want. -/
namespace Go.Proofs.YtblpcpkkjbkakaaGreatDoor
open Go Go.RowKit
set_option linter.unusedVariables false
set_option linter.unusedSimpArgs false

/-- The scanner's test of blanks. -/
def wsp (c : Int) : Bool := bits BinOp.and IntKind.u64 4294977024 (IntKind.u64.wrap (2 ^ min (IntKind.u64.wrap c).toNat 64)) != 0
theorem wsp_tab : ∀ n : Nat, n < 128 → wsp n = (n == 32 || n == 9 || n == 10 || n == 13) := by
  have h : ∀ n : Fin 128, wsp n.1 = (n.1 == 32 || n.1 == 9 || n.1 == 10 || n.1 == 13) := by decide +kernel
  intro n hn
  exact h ⟨n, hn⟩
theorem wsp_end : wsp (-1) = false := by decide +kernel
theorem wsp_at {s : ByteArray} (ha : Plain s) {p : Nat} (h : p < s.size) : wsp (chr s p) = isBlank s[p] := by
  rw [chr_lt h, wsp_tab _ (ha p h).2, Bool.eq_iff_iff, isBlank_iff]
  simp only [Bool.or_eq_true, beq_iff_eq]; omega
def blks : List UInt8 → Nat
  | [] => 0
  | c :: l => if isBlank c then blks l + 1 else 0

/-- The scanner's public cells. -/
structure FOk (F : Nat → Option Value) : Prop where
  c37 : (F 1037).isSome = true
  c38 : (F 1038).isSome = true
  c41 : F 1041 = some (.int .u64 28)
  c42 : F 1042 = some (.int .u64 4294977024)
  c43 : F 1043 = some .nilFunc
  c45 : (F 1045).isSome = true
  c46 : (F 1046).isSome = true
  c47 : (F 1047).isSome = true
def AgF (F F' : Nat → Option Value) : Prop := ∀ k, k ≠ 1037 → k ≠ 1038 → k ≠ 1045 → k ≠ 1046 → k ≠ 1047 → F' k = F k

/-- What the scanner finds at place p: where its token ends; whether it is the end's. -/
inductive TokAt (s : ByteArray) (p : Nat) : Nat → Bool → Prop where
  | fin (h : p = s.size) : TokAt s p p true
  | word (h : p < s.size) (hl : isLet s[p] = true) : TokAt s p (p + 1 + idents (s.data.toList.drop (p + 1))) false
  | num (h : p < s.size) (hl : isDig s[p] = true) (D : Nat) (dot : Bool) (m : Nat) (hP : Parts (s.data.toList.drop p) D dot m) (hE : p + decm (s.data.toList.drop p) ≤ s.size) : TokAt s p (p + decm (s.data.toList.drop p)) false
  | point (h : p < s.size) (hl : s[p] = 46) (hd : ∃ h1 : p + 1 < s.size, isDig s[p + 1] = true) (m : Nat) (hP : Parts (s.data.toList.drop p) 0 true m) (hE : p + decm (s.data.toList.drop p) ≤ s.size) : TokAt s p (p + decm (s.data.toList.drop p)) false
  | sign (h : p < s.size) (hl : isSign s[p] = true) : TokAt s p (p + 1) false

/-- The state behind Scan: the token from t to E. -/
def Toke (s : ByteArray) (rb B b : Nat) (F : Nat → Option Value) (t E : Nat) (w : World) : Prop :=
  ∃ R pos en off tb, IsB B b R tb w ∧ Ok s rb R pos en off (nl s E) ∧ Tk s R tb (pos - nl s E) off (some t) ∧ off + pos = nx s E ∧ (∀ k, 1037 ≤ k → R k = F k) ∧ B ≤ rb ∧ rb ≠ b ∧
    (∃ p : Int, w.heap[rb]? = some (.cells #[.string s, .int .i64 (off + en : Nat), .int .i64 p] 154 (0, 0))) ∧ F 1037 = some (.int .i64 ((pos - nl s E : Nat) : Int))

def ScanPost (s : ByteArray) (rb B b : Nat) (F : Nat → Option Value) (t E : Nat) (eof : Bool) (w : World) (e : Ending) (w' : World) : Prop :=
  ∃ tokv : Int, e = .returned (.int .i32 tokv) ∧ (tokv == -1) = eof ∧ ∃ F', AgF F F' ∧ FOk F' ∧ F' 1038 = some (.int .i32 (chr s E)) ∧ Toke s rb B b F' t E w' ∧ Fr B b rb w w'

theorem St.ints {s : ByteArray} {rb B b : Nat} {F : Nat → Option Value} {q la : Nat} {T : Option Nat} {w : World} (h : St s rb B b F q la T w) :
    (∃ x : Int, w.cell? ⟨b, 1029, none⟩ = some (.int .i64 x)) ∧ (∃ x : Int, w.cell? ⟨b, 1030, none⟩ = some (.int .i64 x)) ∧ (∃ x : Int, w.cell? ⟨b, 1031, none⟩ = some (.int .i64 x)) := by
  obtain ⟨R, pos, en, off, tb, hI, hk, _⟩ := h
  obtain ⟨x, hx⟩ := hk.cline
  obtain ⟨y, hy⟩ := hk.ccol
  obtain ⟨z, hz⟩ := hk.clast
  exact ⟨⟨x, at_cell hI hx (by omega)⟩, ⟨y, at_cell hI hy (by omega)⟩, ⟨z, at_cell hI hz (by omega)⟩⟩

theorem idr0_let {s : ByteArray} (hp : Plain s) {p : Nat} (h : p < s.size) (hl : isLet s[p] = true) : idr (chr s p) 0 = true := by
  unfold idr; rw [low_let hp h, hl]; simp
theorem idr0_not {s : ByteArray} (hp : Plain s) {p : Nat} (h : p < s.size) (hl : isLet s[p] = false) (hb : s[p] ≠ 95) : idr (chr s p) 0 = false := by
  unfold idr; rw [low_let hp h, hl]
  have : decide (chr s p = 95) = false := decide_eq_false (fun e => hb ((byte_eq _ _).2 (by rw [← chr_lt h, e]; rfl)))
  rw [this]; simp
theorem let_dig (c : UInt8) (h : isDig c = true) : isLet c = false ∧ c ≠ 95 := by
  rw [isDig_iff] at h
  refine ⟨Bool.eq_false_iff.2 fun e => ?_, fun e => ?_⟩
  · rw [isLet_iff] at e; omega
  · subst e; simp at h
theorem sign_not (c : UInt8) (h : isSign c = true) : isLet c = false ∧ c ≠ 95 ∧ isDig c = false ∧ ((c.toNat : Int) = 40 ∨ (c.toNat : Int) = 41 ∨ (c.toNat : Int) = 44 ∨ (c.toNat : Int) = 45) := by
  have h2 := (isSign_iff c).1 h
  refine ⟨Bool.eq_false_iff.2 fun e => ?_, fun e => ?_, Bool.eq_false_iff.2 fun e => ?_, h2⟩
  · rw [isLet_iff] at e; omega
  · subst e; simp at h2
  · rw [isDig_iff] at e; omega

end Go.Proofs.YtblpcpkkjbkakaaGreatDoor
/- A text's tokens, and where the scanner finds them. -/
namespace Go.Proofs.YtblpcpkkjbkakaaGreatDoor
open Go Go.RowKit
set_option linter.unusedVariables false
set_option linter.unusedSimpArgs false

/-- A character of a text with tokens. -/
def OkC (c : UInt8) : Prop := isBlank c = true ∨ isSign c = true ∨ isLet c = true ∨ isDig c = true ∨ c = 46 ∨ c = 43
theorem OkC.num {c : UInt8} (h : OkC c) : 0 < c.toNat ∧ c.toNat < 128 ∧ c.toNat ≠ 95 := by
  rcases h with h | h | h | h | h | h
  · rw [isBlank_iff] at h; omega
  · rw [isSign_iff] at h; omega
  · rw [isLet_iff] at h; omega
  · rw [isDig_iff] at h; omega
  · subst h; decide
  · subst h; decide
def NumC (c : UInt8) : Prop := isDig c = true ∨ c = 46 ∨ isLet c = true ∨ c = 43 ∨ c = 45
theorem NumC.ok {c : UInt8} (h : NumC c) : OkC c := by
  rcases h with h | h | h | h | h
  · exact .inr (.inr (.inr (.inl h)))
  · exact .inr (.inr (.inr (.inr (.inl h))))
  · exact .inr (.inr (.inl h))
  · exact .inr (.inr (.inr (.inr (.inr h))))
  · exact .inr (.inl (by subst h; decide))
theorem decm_chars (l : List UInt8) (h : decm l = l.length) (h0 : l ≠ []) : ∀ (i : Nat) (c : UInt8), l[i]? = some c → NumC c := by
  obtain ⟨n1, h1, h2, h3, h4⟩ := decm_parts l h h0
  intro i c hc
  have hi := lt_of_get hc
  by_cases hi1 : i < n1
  · obtain ⟨d, hd, hd2⟩ := h4 i hi1
    rw [hc] at hd
    have := Option.some.inj hd
    subst this
    rcases hd2 with h | h
    · exact .inl h
    · exact .inr (.inl h)
  · rcases dexp_parts l n1 h2 h3 with he | ⟨he, a, ha, hk, hl⟩
    · omega
    · by_cases hin : i = n1
      · subst hin
        rw [hc] at he
        rcases he with he | he
        · have := Option.some.inj he; subst this; exact .inr (.inr (.inl (by decide)))
        · have := Option.some.inj he; subst this; exact .inr (.inr (.inl (by decide)))
      · by_cases hia : a ≤ i
        · obtain ⟨d, hd, hd2⟩ := digs_drop l a i hia (by omega)
          rw [hc] at hd
          have := Option.some.inj hd
          subst this
          exact .inl hd2
        · by_cases hs : l[n1 + 1]? = some 43 ∨ l[n1 + 1]? = some 45
          · rw [if_pos hs] at ha
            have hi2 : i = n1 + 1 := by omega
            subst hi2
            rw [hc] at hs
            rcases hs with hs | hs
            · exact .inr (.inr (.inr (.inl (Option.some.inj hs))))
            · exact .inr (.inr (.inr (.inr (Option.some.inj hs))))
          · rw [if_neg hs] at ha; omega
theorem lets_let : ∀ (l : List UInt8) (i : Nat) (c : UInt8), i < lets l → l[i]? = some c → isLet c = true
  | [], i, c, h, _ => by simp [lets] at h
  | x :: l, i, c, h, hc => by
    unfold lets at h
    by_cases hx : isLet x = true
    · rw [if_pos hx] at h
      cases i with
      | zero => simp at hc; rw [← hc]; exact hx
      | succ i => exact lets_let l i c (by omega) (by simpa using hc)
    · rw [if_neg hx] at h; omega
theorem toksF_chars : ∀ (k : Nat) (j : Bool) (l : List UInt8) (T : List (UInt8 × List UInt8)), toksF k j l = some T → ∀ (i : Nat) (c : UInt8), l[i]? = some c → OkC c := by
  intro k
  induction k with
  | zero =>
    intro j l T h i c hc
    cases l with
    | nil => simp at hc
    | cons x r => simp [toksF] at h
  | succ k ih =>
    intro j l T h i c hc
    cases l with
    | nil => simp at hc
    | cons x r =>
      simp only [toksF] at h
      by_cases hb : isBlank x = true
      · rw [if_pos hb] at h
        cases i with
        | zero => simp at hc; subst hc; exact .inl hb
        | succ i => exact ih false r T h i c (by simpa using hc)
      · rw [if_neg hb] at h
        by_cases hs : isSign x = true
        · rw [if_pos hs] at h
          split at h
          · cases h
          · cases hr : toksF k false r with
            | none => rw [hr] at h; cases h
            | some T2 =>
              cases i with
              | zero => simp at hc; subst hc; exact .inr (.inl hs)
              | succ i => exact ih false r T2 hr i c (by simpa using hc)
        · rw [if_neg hs] at h
          by_cases hl : isLet x = true
          · rw [if_pos hl] at h
            cases j with
            | true => simp at h
            | false =>
              simp only [Bool.false_eq_true, if_false] at h
              cases hr : toksF k true ((x :: r).drop (lets (x :: r))) with
              | none => rw [hr] at h; cases h
              | some T2 =>
                by_cases hi : i < lets (x :: r)
                · exact .inr (.inr (.inl (lets_let _ i c hi hc)))
                · refine ih true _ T2 hr (i - lets (x :: r)) c ?_
                  rw [List.getElem?_drop, show lets (x :: r) + (i - lets (x :: r)) = i by omega]; exact hc
          · rw [if_neg hl] at h
            by_cases hd : decm (x :: r) = 0 ∨ j = true
            · rw [if_pos hd] at h; cases h
            · rw [if_neg hd] at h
              cases hr : toksF k true ((x :: r).drop (decm (x :: r))) with
              | none => rw [hr] at h; cases h
              | some T2 =>
                by_cases hi : i < decm (x :: r)
                · have hdl := decm_le (x :: r)
                  refine NumC.ok (decm_chars ((x :: r).take (decm (x :: r))) ?_ ?_ i c ?_)
                  · rw [decm_take, List.length_take]; omega
                  · intro e
                    have : ((x :: r).take (decm (x :: r))).length = 0 := by rw [e]; rfl
                    rw [List.length_take] at this
                    simp only [List.length_cons] at this hdl
                    omega
                  · rw [get_take_lt _ hi]; exact hc
                · refine ih true _ T2 hr (i - decm (x :: r)) c ?_
                  rw [List.getElem?_drop, show decm (x :: r) + (i - decm (x :: r)) = i by omega]; exact hc
theorem toks_plain {s : ByteArray} {T : List (UInt8 × List UInt8)} (h : toks false s.data.toList = some T) : Plain s ∧ NoBar s := by
  have hc := toksF_chars _ _ _ _ h
  exact ⟨fun i hi => by have := (hc i _ (get_at s i hi)).num; omega, fun i hi => by have := (hc i _ (get_at s i hi)).num; omega⟩

/-- What stands right behind a word or a number. -/
theorem toks_behind {l : List UInt8} {T : List (UInt8 × List UInt8)} (h : toks true l = some T) : ∀ c, l[0]? = some c → isBlank c = true ∨ (isSign c = true ∧ c ≠ 45) := by
  intro c hc
  cases l with
  | nil => simp at hc
  | cons x r =>
    simp at hc
    subst hc
    by_cases hb : isBlank x = true
    · exact .inl hb
    · have hb' : isBlank x = false := by simpa using hb
      by_cases hs : isSign x = true
      · rw [toks_sign true x r hb' hs] at h
        refine .inr ⟨hs, fun e => ?_⟩
        rw [if_pos ⟨e, rfl⟩] at h; cases h
      · have hs' : isSign x = false := by simpa using hs
        by_cases hl : isLet x = true
        · rw [toks_word true x r hb' hs' hl] at h; simp at h
        · rw [toks_num true x r hb' hs' (by simpa using hl), if_pos (.inr rfl)] at h; cases h
theorem blks_le (l : List UInt8) : blks l ≤ l.length := by
  induction l with
  | nil => exact Nat.le_refl _
  | cons c l ih => unfold blks; split <;> simp <;> omega
theorem toks_blks : ∀ (l : List UInt8) (j : Bool) (T : List (UInt8 × List UInt8)), toks j l = some T → ∃ j2, toks j2 (l.drop (blks l)) = some T ∧ (∀ c, l[blks l]? = some c → isBlank c = false)
  | [], j, T, h => ⟨j, h, fun c hc => by simp at hc⟩
  | x :: r, j, T, h => by
    unfold blks
    by_cases hb : isBlank x = true
    · rw [if_pos hb]
      rw [toks_blank j x r hb] at h
      obtain ⟨j2, h1, h2⟩ := toks_blks r false T h
      exact ⟨j2, by simpa using h1, fun c hc => h2 c (by simpa using hc)⟩
    · rw [if_neg hb]
      refine ⟨j, by simpa using h, fun c hc => ?_⟩
      simp at hc; subst hc; simpa using hb
theorem toks_nil_end {l : List UInt8} {j : Bool} (h : toks j l = some []) : blks l = l.length := by
  obtain ⟨j2, h1, h2⟩ := toks_blks l j [] h
  have hle := blks_le l
  by_cases he : blks l = l.length
  · exact he
  · exfalso
    have hlt : blks l < l.length := by omega
    have hc := List.getElem?_eq_getElem hlt
    have hb := h2 _ hc
    rw [List.drop_eq_getElem_cons hlt] at h1
    by_cases hs : isSign l[blks l] = true
    · rw [toks_sign j2 _ _ hb hs] at h1
      split at h1
      · cases h1
      · cases hr : toks false (l.drop (blks l + 1)) with
        | none => rw [hr] at h1; cases h1
        | some x => rw [hr] at h1; simp at h1
    · have hs' : isSign l[blks l] = false := by simpa using hs
      by_cases hl : isLet l[blks l] = true
      · rw [toks_word j2 _ _ hb hs' hl] at h1
        split at h1
        · cases h1
        · generalize toks true _ = o at h1
          cases o <;> simp at h1
      · rw [toks_num j2 _ _ hb hs' (by simpa using hl)] at h1
        split at h1
        · cases h1
        · generalize toks true _ = o at h1
          cases o <;> simp at h1
/-- The kinds of a token at the beginning of l: n characters long. -/
def KindAt (l : List UInt8) (t : UInt8 × List UInt8) (n : Nat) (j' : Bool) : Prop :=
  ∃ c, l[0]? = some c ∧ ((isLet c = true ∧ n = lets l ∧ t.1 = 97 ∧ j' = true) ∨ (isLet c = false ∧ isSign c = false ∧ 0 < decm l ∧ n = decm l ∧ t.1 = 49 ∧ j' = true) ∨ (isSign c = true ∧ n = 1 ∧ t.1 = c ∧ j' = false))
theorem toks_cons {l : List UInt8} {j : Bool} {t : UInt8 × List UInt8} {T : List (UInt8 × List UInt8)} (h : toks j l = some (t :: T)) :
    ∃ n j', 0 < n ∧ blks l + n ≤ l.length ∧ t.2 = (l.drop (blks l)).take n ∧ toks j' (l.drop (blks l + n)) = some T ∧ KindAt (l.drop (blks l)) t n j' := by
  obtain ⟨j2, h1, h2⟩ := toks_blks l j _ h
  have hle := blks_le l
  have hlt : blks l < l.length := by
    apply Nat.lt_of_le_of_ne hle
    intro he
    rw [he, List.drop_length] at h1
    simp [toks, toksF] at h1
  have hc := List.getElem?_eq_getElem hlt
  have hb := h2 _ hc
  have hd := List.drop_eq_getElem_cons hlt
  have hdd : ∀ n, (l.drop (blks l)).drop n = l.drop (blks l + n) := fun n => by rw [List.drop_drop]
  have hget : (l.drop (blks l))[0]? = some l[blks l] := by rw [List.getElem?_drop]; simp
  rw [hd] at h1
  by_cases hs : isSign l[blks l] = true
  · rw [toks_sign j2 _ _ hb hs] at h1
    split at h1
    · cases h1
    · cases hr : toks false (l.drop (blks l + 1)) with
      | none => rw [hr] at h1; cases h1
      | some x =>
        rw [hr] at h1
        simp at h1
        obtain ⟨rfl, rfl⟩ := h1
        exact ⟨1, false, by decide, by omega, by rw [hd]; rfl, hr, l[blks l], hget, .inr (.inr ⟨hs, rfl, rfl, rfl⟩)⟩
  · have hs' : isSign l[blks l] = false := by simpa using hs
    by_cases hl : isLet l[blks l] = true
    · rw [toks_word j2 _ _ hb hs' hl] at h1
      split at h1
      · cases h1
      · rw [← hd, hdd] at h1
        have h0 : 0 < lets (l.drop (blks l)) := by rw [hd]; unfold lets; rw [if_pos hl]; omega
        have hll := lets_le (l.drop (blks l))
        rw [List.length_drop] at hll
        cases hr : toks true (l.drop (blks l + lets (l.drop (blks l)))) with
        | none => rw [hr] at h1; cases h1
        | some x =>
          rw [hr] at h1
          simp at h1
          obtain ⟨rfl, rfl⟩ := h1
          exact ⟨_, true, h0, by omega, rfl, hr, l[blks l], hget, .inl ⟨hl, rfl, rfl, rfl⟩⟩
    · have hl' : isLet l[blks l] = false := by simpa using hl
      rw [toks_num j2 _ _ hb hs' hl'] at h1
      split at h1
      · cases h1
      · rename_i hz
        rw [← hd, hdd] at h1
        rw [← hd] at hz
        have h0 : 0 < decm (l.drop (blks l)) := by omega
        have hll := decm_le (l.drop (blks l))
        rw [List.length_drop] at hll
        cases hr : toks true (l.drop (blks l + decm (l.drop (blks l)))) with
        | none => rw [hr] at h1; cases h1
        | some x =>
          rw [hr] at h1
          simp at h1
          obtain ⟨rfl, rfl⟩ := h1
          exact ⟨_, true, h0, by omega, rfl, hr, l[blks l], hget, .inr (.inl ⟨hl', hs', h0, rfl, rfl, rfl⟩)⟩

theorem ident_not {c : UInt8} (h : isBlank c = true ∨ (isSign c = true ∧ c ≠ 45)) : ident c = false := by
  rcases h with h | ⟨h, -⟩
  · rw [isBlank_iff] at h
    rcases h with h | h | h | h
    · rw [(byte_eq c 32).2 h]; decide
    · rw [(byte_eq c 9).2 h]; decide
    · rw [(byte_eq c 10).2 h]; decide
    · rw [(byte_eq c 13).2 h]; decide
  · rw [isSign_iff] at h
    rcases h with h | h | h | h
    · rw [(byte_eq c 40).2 h]; decide
    · rw [(byte_eq c 41).2 h]; decide
    · rw [(byte_eq c 44).2 h]; decide
    · rw [(byte_eq c 45).2 h]; decide
theorem idents_lets : ∀ (l : List UInt8), (∀ c, l[lets l]? = some c → ident c = false) → idents l = lets l
  | [], _ => rfl
  | x :: l, h => by
    unfold idents lets
    unfold lets at h
    by_cases hx : isLet x = true
    · have hid : ident x = true := by unfold ident; rw [hx]; simp
      rw [if_pos hx] at h
      rw [if_pos hx, if_pos hid, idents_lets l (fun c hc => h c (by simpa using hc))]
    · rw [if_neg hx] at h
      rw [if_neg hx]
      have := h x (by simp)
      rw [this]; rfl

/-- The scanner's place of the next token. -/
theorem tok_at (s : ByteArray) (p : Nat) (j : Bool) (t : UInt8 × List UInt8) (T : List (UInt8 × List UInt8)) (hp : p ≤ s.size) (h : toks j (s.data.toList.drop p) = some (t :: T)) (hpad : t.1 = 49 → padd t.2 = false) :
    ∃ t0 E j', p + blks (s.data.toList.drop p) = t0 ∧ TokAt s t0 E false ∧ seg s t0 E = t.2 ∧ toks j' (s.data.toList.drop E) = some T ∧ E ≤ s.size ∧ t0 < E ∧ p ≤ t0 := by
  obtain ⟨n, j', hn, hle, ht2, hr, c, hc, hk⟩ := toks_cons h
  have hlen : (s.data.toList.drop p).length = s.size - p := by rw [List.length_drop, ← Lib.size_eq]
  rw [hlen] at hle
  obtain ⟨t0, ht0⟩ : ∃ t0, t0 = p + blks (s.data.toList.drop p) := ⟨_, rfl⟩
  have hdd : ∀ n, (s.data.toList.drop p).drop (blks (s.data.toList.drop p) + n) = s.data.toList.drop (t0 + n) := fun n => by rw [List.drop_drop, ht0]; congr 1; omega
  have hd0 : (s.data.toList.drop p).drop (blks (s.data.toList.drop p)) = s.data.toList.drop t0 := by rw [List.drop_drop, ht0]
  rw [hdd] at hr
  rw [hd0] at ht2 hc hk
  have hlt : t0 < s.size := by omega
  have hst : s[t0] = c := by
    rw [get_drop, Nat.add_zero, get_at s t0 hlt] at hc
    exact Option.some.inj hc
  have hseg : seg s t0 (t0 + n) = t.2 := by unfold seg; rw [ht2]; congr 1; omega
  refine ⟨t0, t0 + n, j', ht0.symm, ?_, hseg, hr, by omega, by omega, by omega⟩
  have hbehind : j' = true → ∀ x, s.data.toList[t0 + n]? = some x → isBlank x = true ∨ (isSign x = true ∧ x ≠ 45) := by
    intro hj x hx
    subst hj
    exact toks_behind hr x (by rw [get_drop, Nat.add_zero]; exact hx)
  rcases hk with ⟨hl, hnl, -, hj⟩ | ⟨hl, hs, h0, hnd, ht1, hj⟩ | ⟨hs, hn1, -, hj⟩
  · have hdc := drop_at s t0 hlt
    have hle2 : lets (s.data.toList.drop t0) = lets (s.data.toList.drop (t0 + 1)) + 1 := by
      rw [hdc]; conv => lhs; unfold lets
      rw [if_pos (by rw [hst]; exact hl)]
    have hid : idents (s.data.toList.drop (t0 + 1)) = lets (s.data.toList.drop (t0 + 1)) := by
      apply idents_lets
      intro x hx
      rw [get_drop, show t0 + 1 + lets (s.data.toList.drop (t0 + 1)) = t0 + n by omega] at hx
      exact ident_not (hbehind hj x hx)
    have := TokAt.word hlt (by rw [hst]; exact hl)
    rw [hid, show t0 + 1 + lets (s.data.toList.drop (t0 + 1)) = t0 + n by omega] at this
    exact this
  · have hpd := hpad ht1
    rw [ht2, hnd] at hpd
    obtain ⟨D, dot, m, hP⟩ := num_parts _ h0 hpd (fun x hx => by
      rw [get_drop, ← hnd] at hx
      rcases hbehind hj x hx with hb | ⟨hb, _⟩
      · rw [isBlank_iff] at hb
        cases hx2 : isLet x with
        | false => rfl
        | true => rw [isLet_iff] at hx2; omega
      · exact (sign_not x hb).1)
    have hE : t0 + decm (s.data.toList.drop t0) ≤ s.size := by omega
    rw [hnd]
    by_cases hdg : isDig s[t0] = true
    · exact TokAt.num hlt hdg D dot m hP hE
    · have hD0 : D = 0 := by
        rw [← hP.hD, drop_at s t0 hlt]
        unfold digs
        rw [if_neg hdg]
      have hdot : dot = true := by
        have hpos := hP.hpos
        cases dot with
        | true => rfl
        | false => rw [hD0] at hpos; simp at hpos
      subst hD0; subst hdot
      have h46 := hP.hdot.2 rfl
      rw [get_drop, Nat.add_zero, get_at s t0 hlt] at h46
      have hpos := hP.hpos
      simp only [if_true, Nat.zero_add] at hpos
      obtain ⟨x, hx, hxd⟩ := digs_dig ((s.data.toList.drop t0).drop 1) 0 (by simpa using hpos)
      rw [List.getElem?_drop, get_drop] at hx
      have hlt1 : t0 + 1 < s.size := by have := lt_of_get hx; rw [← Lib.size_eq] at this; omega
      rw [show t0 + (1 + 0) = t0 + 1 by omega, get_at s _ hlt1] at hx
      exact TokAt.point hlt (Option.some.inj h46) ⟨hlt1, by rw [Option.some.inj hx]; exact hxd⟩ m hP hE
  · rw [hn1]
    exact TokAt.sign hlt (by rw [hst]; exact hs)

end Go.Proofs.YtblpcpkkjbkakaaGreatDoor
