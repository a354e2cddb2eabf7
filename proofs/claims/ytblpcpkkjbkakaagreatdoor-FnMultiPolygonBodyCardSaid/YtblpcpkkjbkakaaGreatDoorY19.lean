/- Lemmas towards the seat's laws: 2 texts joined. -/
import Derived.Test.YtblpcpkkjbkakaaGreatDoorY16
import Derived.WalkMore
/- The scanner's state: cells set; Peek. -/
namespace Go.Proofs.YtblpcpkkjbkakaaGreatDoor
open Go Go.RowKit
set_option linter.unusedVariables false
set_option linter.unusedSimpArgs false

theorem Ok.same {s : ByteArray} {rb : Nat} {R R' : Nat → Option Value} {pos en off la : Nat} (h : Ok s rb R pos en off la) (hR : ∀ k, k < 1036 → R' k = R k) : Ok s rb R' pos en off la where
  src := (hR 0 (by omega)).trans h.src
  buf := fun i hi => by obtain ⟨x, hx⟩ := h.buf i hi; exact ⟨x, (hR _ (by omega)).trans hx⟩
  own := fun j hj => by obtain ⟨x, hx⟩ := h.own j hj; exact ⟨x, (hR _ (by have := h.hen; omega)).trans hx⟩
  guard := (hR _ (by have := h.hen; omega)).trans h.guard
  cpos := (hR _ (by omega)).trans h.cpos
  cen := (hR _ (by omega)).trans h.cen
  coff := (hR _ (by omega)).trans h.coff
  cline := by obtain ⟨x, hx⟩ := h.cline; exact ⟨x, (hR _ (by omega)).trans hx⟩
  ccol := by obtain ⟨x, hx⟩ := h.ccol; exact ⟨x, (hR _ (by omega)).trans hx⟩
  clast := by obtain ⟨x, hx⟩ := h.clast; exact ⟨x, (hR _ (by omega)).trans hx⟩
  cla := (hR _ (by omega)).trans h.cla
  hpos := h.hpos
  hen := h.hen
  hoff := h.hoff
  hs := h.hs
  hla := h.hla
  hla1 := h.hla1

theorem Tk.same {s : ByteArray} {R R' : Nat → Option Value} {tb : List UInt8} {pos off : Nat} {T : Option Nat} (h : Tk s R tb pos off T) (e : R' 1036 = R 1036) : Tk s R' tb pos off T := by
  cases T with
  | none => exact e.trans h
  | some t => obtain ⟨tp, h1, h2⟩ := h; exact ⟨tp, e.trans h1, h2⟩

theorem St.set {s : ByteArray} {rb B b : Nat} {F : Nat → Option Value} {q la : Nat} {T : Option Nat} {w : World} (h : St s rb B b F q la T w) (k : Nat) (hk : 1037 ≤ k) (hold : (F k).isSome = true) (v : Value) : St s rb B b (upd F k v) q la T (w.setCell ⟨b, k, none⟩ v) := by
  obtain ⟨R, pos, en, off, tb, hI, hok, hT, hq, hF, hrb, hne, p, hr⟩ := h
  refine ⟨upd R k v, pos, en, off, tb, hI.set k (by omega) (by rw [hF k hk]; exact hold) v, hok.same (fun j hj => upd_ne _ _ _ _ (by omega)), hT.same (upd_ne _ _ _ _ (by omega)), hq, fun j hj => ?_, hrb, hne, p, (Below.heap_setCell _ _ _ _ hne).trans hr⟩
  unfold upd
  split
  · rfl
  · exact hF j hj
theorem St.frozen {s : ByteArray} {rb B b : Nat} {F : Nat → Option Value} {q la : Nat} {T : Option Nat} {w : World} (h : St s rb B b F q la T w) (k : Nat) : w.frozen? ⟨b, k, none⟩ = false := by
  obtain ⟨R, pos, en, off, tb, hI, _⟩ := h
  exact hI.notFrozen k
theorem St.drewN {s : ByteArray} {rb B b : Nat} {F : Nat → Option Value} {q la : Nat} {T : Option Nat} {w : World} (h : St s rb B b F q la T w) (n : Nat) : St s rb B b F q la T (w.drewN n) := by
  obtain ⟨R, pos, en, off, tb, hI, h⟩ := h
  exact ⟨R, pos, en, off, tb, hI.drewN n, h⟩
/-- The token under way is let go. -/
theorem St.noTok {s : ByteArray} {rb B b : Nat} {F : Nat → Option Value} {q la : Nat} {T : Option Nat} {w : World} (h : St s rb B b F q la T w) : St s rb B b F q la none (w.setCell ⟨b, 1036, none⟩ (.int .i64 (-1))) := by
  obtain ⟨R, pos, en, off, tb, hI, hok, hT, hq, hF, hrb, hne, p, hr⟩ := h
  have hold : (R 1036).isSome = true := by
    cases T with
    | none => rw [show R 1036 = _ from hT]; rfl
    | some t => obtain ⟨tp, h1, _⟩ := hT; rw [h1]; rfl
  exact ⟨upd R 1036 (.int .i64 (-1)), pos, en, off, tb, hI.set 1036 (by omega) hold _, hok.same (fun j hj => upd_ne _ _ _ _ (by omega)), upd_at _ _ _, hq, fun j hj => (upd_ne _ _ _ _ (by omega)).trans (hF j hj), hrb, hne, p, (Below.heap_setCell _ _ _ _ hne).trans hr⟩
theorem St.c1036 {s : ByteArray} {rb B b : Nat} {F : Nat → Option Value} {q la : Nat} {T : Option Nat} {w : World} (h : St s rb B b F q la T w) : ∃ x : Int, w.cell? ⟨b, 1036, none⟩ = some (.int .i64 x) := by
  obtain ⟨R, pos, en, off, tb, hI, hok, hT, _⟩ := h
  cases T with
  | none => exact ⟨_, at_cell hI hT (by omega)⟩
  | some t => obtain ⟨tp, h1, _⟩ := hT; exact ⟨_, at_cell hI h1 (by omega)⟩

theorem Fr.trans' {B b rb : Nat} {w w1 w2 : World} (h : Fr B b rb w w1) (k : Fr B b rb w1 w2) : Fr B b rb w w2 := h.trans k

/-- The scanner is ready: it stands at the character p, or it has not begun. -/
def Rdy (s : ByteArray) (rb B b : Nat) (F : Nat → Option Value) (p : Nat) (w : World) : Prop :=
  (p = 0 ∧ F 1038 = some (.int .i32 (-2)) ∧ ∃ T, St s rb B b F 0 0 T w) ∨ (F 1038 = some (.int .i32 (chr s p)) ∧ ∃ T, Cur s rb B b F p T w)

def PeekPost (s : ByteArray) (rb B b : Nat) (F : Nat → Option Value) (p : Nat) (w : World) (e : Ending) (w' : World) : Prop :=
  e = .returned (.int .i32 (chr s p)) ∧ (∃ F', (∀ k, k ≠ 1038 → F' k = F k) ∧ (F' 1038).isSome = true ∧ ∃ T, Cur s rb B b F' p T w') ∧ Fr B b rb w w'

set_option maxRecDepth 100000 in
set_option maxHeartbeats 1000000 in
theorem peek_any (s : ByteArray) (rb B b : Nat) (F : Nat → Option Value) (p : Nat) (w : World) (h : Rdy s rb B b F p w) (ha : Plain s) (hG : Gl w) (hB9 : 9 ≤ B) :
    Calls Tryz.prog 85 #[.pointer (some ⟨b, 0, none⟩)] w (PeekPost s rb B b F p w) := by
  have hcb := chr_bound ha p
  have hcb0 := chr_bound ha 0
  have HA := Lib.hid ha; clear ha
  have HG := Lib.hid hG; clear hG
  rcases h with ⟨rfl, hc, T, h⟩ | ⟨hc, T, h⟩
  · have c38 := h.cell (by omega) hc
    have f38 := h.frozen 1038
    have hB := h.lt.1
    have H := Lib.hid h; clear h
    have HC := Lib.hid hc; clear hc
    have hbm : (chr s 0 == 65279) = false := beq_false_of_ne (by omega)
    clear hcb
    go_enter Tryz.func85, Tryz.ntmps85
    go_wp2_with fail
    refine (next_any s rb B b F 0 0 T _ H.out HA.out HG.out hB9).mono ?_
    rintro e w2 ⟨rfl, h2, f2⟩
    have c38' := h2.cell (by omega) HC.out
    have f38' := h2.frozen 1038
    have H2 := Lib.hid h2; clear h2
    have F2 := Lib.hid f2; clear f2
    go_wp2_with fail
    go_ret
    refine ⟨rfl, ⟨_, ?_, ?_, T, H2.out.set 1038 (by omega) (by rw [HC.out]; rfl) _⟩, F2.out.set hB _ _⟩
    · intro k hk; exact upd_ne _ _ _ _ hk
    · rw [upd_at]; rfl
  · have c38 := h.cell (by omega) hc
    have hne2 : (chr s p == -2) = false := beq_false_of_ne (by omega)
    have H := Lib.hid h; clear h
    have HC := Lib.hid hc; clear hc
    clear hcb hcb0
    go_enter Tryz.func85, Tryz.ntmps85
    go_wp2_with fail
    go_ret
    exact ⟨rfl, ⟨F, fun _ _ => rfl, by rw [HC.out]; rfl, T, H.out⟩, Fr.refl _ _ _ _⟩

end Go.Proofs.YtblpcpkkjbkakaaGreatDoor
/- Scan: what its parts want. -/
namespace Go.Proofs.YtblpcpkkjbkakaaGreatDoor
open Go Go.RowKit
set_option linter.unusedVariables false
set_option linter.unusedSimpArgs false

/-- The scanner's test of blanks. -/
def wsp (c : Int) : Bool := bits BinOp.and IntKind.u64 4294977024 (IntKind.u64.wrap (2 ^ min (IntKind.u64.wrap c).toNat 64)) != 0
theorem wsp_tab : ∀ n : Nat, n < 128 → wsp n = (n == 32 || n == 9 || n == 10 || n == 13) := by
  have h : ∀ n : Fin 128, wsp n.1 = (n.1 == 32 || n.1 == 9 || n.1 == 10 || n.1 == 13) := by decide +kernel
  intro n hn
  exact h ⟨n, hn⟩
theorem wsp_end : wsp (-1) = false := by decide +kernel
theorem wsp_at {s : ByteArray} (ha : Plain s) {p : Nat} (h : p < s.size) : wsp (chr s p) = isBlank s[p] := by
  rw [chr_lt h, wsp_tab _ (ha p h).2, Bool.eq_iff_iff, isBlank_iff]
  simp only [Bool.or_eq_true, beq_iff_eq]; omega
def blks : List UInt8 → Nat
  | [] => 0
  | c :: l => if isBlank c then blks l + 1 else 0

/-- The scanner's public cells. -/
structure FOk (F : Nat → Option Value) : Prop where
  c37 : (F 1037).isSome = true
  c38 : (F 1038).isSome = true
  c41 : F 1041 = some (.int .u64 28)
  c42 : F 1042 = some (.int .u64 4294977024)
  c43 : F 1043 = some .nilFunc
  c45 : (F 1045).isSome = true
  c46 : (F 1046).isSome = true
  c47 : (F 1047).isSome = true
def AgF (F F' : Nat → Option Value) : Prop := ∀ k, k ≠ 1037 → k ≠ 1038 → k ≠ 1045 → k ≠ 1046 → k ≠ 1047 → F' k = F k

/-- What the scanner finds at place p: where its token ends; whether it is the end's. -/
inductive TokAt (s : ByteArray) (p : Nat) : Nat → Bool → Prop where
  | fin (h : p = s.size) : TokAt s p p true
  | word (h : p < s.size) (hl : isLet s[p] = true) : TokAt s p (p + 1 + idents (s.data.toList.drop (p + 1))) false
  | num (h : p < s.size) (hl : isDig s[p] = true) (D : Nat) (dot : Bool) (m : Nat) (hP : Parts (s.data.toList.drop p) D dot m) (hE : p + decm (s.data.toList.drop p) ≤ s.size) : TokAt s p (p + decm (s.data.toList.drop p)) false
  | point (h : p < s.size) (hl : s[p] = 46) (hd : ∃ h1 : p + 1 < s.size, isDig s[p + 1] = true) (m : Nat) (hP : Parts (s.data.toList.drop p) 0 true m) (hE : p + decm (s.data.toList.drop p) ≤ s.size) : TokAt s p (p + decm (s.data.toList.drop p)) false
  | sign (h : p < s.size) (hl : isSign s[p] = true) : TokAt s p (p + 1) false

/-- The state behind Scan: the token from t to E. -/
def Toke (s : ByteArray) (rb B b : Nat) (F : Nat → Option Value) (t E : Nat) (w : World) : Prop :=
  ∃ R pos en off tb, IsB B b R tb w ∧ Ok s rb R pos en off (nl s E) ∧ Tk s R tb (pos - nl s E) off (some t) ∧ off + pos = nx s E ∧ (∀ k, 1037 ≤ k → R k = F k) ∧ B ≤ rb ∧ rb ≠ b ∧
    (∃ p : Int, w.heap[rb]? = some (.cells #[.string s, .int .i64 (off + en : Nat), .int .i64 p] 154 (0, 0))) ∧ F 1037 = some (.int .i64 ((pos - nl s E : Nat) : Int))

def ScanPost (s : ByteArray) (rb B b : Nat) (F : Nat → Option Value) (t E : Nat) (eof : Bool) (w : World) (e : Ending) (w' : World) : Prop :=
  ∃ tokv : Int, e = .returned (.int .i32 tokv) ∧ (tokv == -1) = eof ∧ ∃ F', AgF F F' ∧ FOk F' ∧ F' 1038 = some (.int .i32 (chr s E)) ∧ Toke s rb B b F' t E w' ∧ Fr B b rb w w'

theorem St.ints {s : ByteArray} {rb B b : Nat} {F : Nat → Option Value} {q la : Nat} {T : Option Nat} {w : World} (h : St s rb B b F q la T w) :
    (∃ x : Int, w.cell? ⟨b, 1029, none⟩ = some (.int .i64 x)) ∧ (∃ x : Int, w.cell? ⟨b, 1030, none⟩ = some (.int .i64 x)) ∧ (∃ x : Int, w.cell? ⟨b, 1031, none⟩ = some (.int .i64 x)) := by
  obtain ⟨R, pos, en, off, tb, hI, hk, _⟩ := h
  obtain ⟨x, hx⟩ := hk.cline
  obtain ⟨y, hy⟩ := hk.ccol
  obtain ⟨z, hz⟩ := hk.clast
  exact ⟨⟨x, at_cell hI hx (by omega)⟩, ⟨y, at_cell hI hy (by omega)⟩, ⟨z, at_cell hI hz (by omega)⟩⟩

theorem idr0_let {s : ByteArray} (hp : Plain s) {p : Nat} (h : p < s.size) (hl : isLet s[p] = true) : idr (chr s p) 0 = true := by
  unfold idr; rw [low_let hp h, hl]; simp
theorem idr0_not {s : ByteArray} (hp : Plain s) {p : Nat} (h : p < s.size) (hl : isLet s[p] = false) (hb : s[p] ≠ 95) : idr (chr s p) 0 = false := by
  unfold idr; rw [low_let hp h, hl]
  have : decide (chr s p = 95) = false := decide_eq_false (fun e => hb ((byte_eq _ _).2 (by rw [← chr_lt h, e]; rfl)))
  rw [this]; simp
theorem let_dig (c : UInt8) (h : isDig c = true) : isLet c = false ∧ c ≠ 95 := by
  rw [isDig_iff] at h
  refine ⟨Bool.eq_false_iff.2 fun e => ?_, fun e => ?_⟩
  · rw [isLet_iff] at e; omega
  · subst e; simp at h
theorem sign_not (c : UInt8) (h : isSign c = true) : isLet c = false ∧ c ≠ 95 ∧ isDig c = false ∧ ((c.toNat : Int) = 40 ∨ (c.toNat : Int) = 41 ∨ (c.toNat : Int) = 44 ∨ (c.toNat : Int) = 45) := by
  have h2 := (isSign_iff c).1 h
  refine ⟨Bool.eq_false_iff.2 fun e => ?_, fun e => ?_, Bool.eq_false_iff.2 fun e => ?_, h2⟩
  · rw [isLet_iff] at e; omega
  · subst e; simp at h2
  · rw [isDig_iff] at e; omega

end Go.Proofs.YtblpcpkkjbkakaaGreatDoor
