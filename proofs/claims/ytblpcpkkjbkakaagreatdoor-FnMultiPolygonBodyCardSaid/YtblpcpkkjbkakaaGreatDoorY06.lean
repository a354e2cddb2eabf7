/- Lemmas towards the seat's laws: 1 texts joined. -/
import Derived.Test.YtblpcpkkjbkakaaGreatDoorY05
import Derived.Lib.BufferAt
/- The scanner's state in memory, and the next character where one lies ready. -/
namespace Go.Proofs.YtblpcpkkjbkakaaGreatDoor
open Go Go.RowKit
set_option linter.unusedVariables false
set_option linter.unusedSimpArgs false

/-- The text's bytes from place i up to place j. -/
def seg (s : ByteArray) (i j : Nat) : List UInt8 := (s.data.toList.drop i).take (j - i)

def upd (R : Nat → Option Value) (i : Nat) (x : Value) : Nat → Option Value := fun j => if j = i then some x else R j
theorem upd_at (R : Nat → Option Value) (i : Nat) (x : Value) : upd R i x i = some x := by simp [upd]
theorem upd_ne (R : Nat → Option Value) (i j : Nat) (x : Value) (h : j ≠ i) : upd R i x j = R j := by simp [upd, h]

abbrev IsB (B b : Nat) (R : Nat → Option Value) (tb : List UInt8) (w : World) : Prop := LibA.IsBuffer 104 R 5 B b 1033 (Lib.byteCells tb) w

theorem IsB.set {B b : Nat} {R : Nat → Option Value} {tb : List UInt8} {w : World} (h : IsB B b R tb w) (i : Nat) (hi : i < 1033 ∨ 1036 ≤ i) (hold : (R i).isSome = true) (x : Value) : IsB B b (upd R i x) tb (w.setCell ⟨b, i, none⟩ x) := by
  obtain ⟨o, ho⟩ := Option.isSome_iff_exists.1 hold
  exact h.setOther i (by omega) ho x

theorem at_cell {B b : Nat} {R : Nat → Option Value} {tb : List UInt8} {w : World} (h : IsB B b R tb w) {k : Nat} {v : Value} (hk : R k = some v) (hi : k < 1033 ∨ 1036 ≤ k) : w.cell? ⟨b, k, none⟩ = some v := (h.rest k (by omega)).trans hk

/-- What the scanner's own cells hold: the text s, the reader's block rb, the place pos of the en bytes that begin at off, the last character's length la. -/
structure Ok (s : ByteArray) (rb : Nat) (R : Nat → Option Value) (pos en off la : Nat) : Prop where
  src : R 0 = some (.iface 130 (.pointer (some ⟨rb, 0, none⟩)))
  buf : ∀ i, i < 1025 → ∃ x : UInt8, R (1 + i) = some (.int .u8 x.toNat)
  own : ∀ j, j < en → ∃ h : off + j < s.size, R (1 + j) = some (.int .u8 (s[off + j].toNat))
  guard : R (1 + en) = some (.int .u8 128)
  cpos : R 1026 = some (.int .i64 pos)
  cen : R 1027 = some (.int .i64 en)
  coff : R 1028 = some (.int .i64 off)
  cline : ∃ x, R 1029 = some (.int .i64 x)
  ccol : ∃ x, R 1030 = some (.int .i64 x)
  clast : ∃ x, R 1031 = some (.int .i64 x)
  cla : R 1032 = some (.int .i64 la)
  hpos : pos ≤ en
  hen : en ≤ 1024
  hoff : off + en ≤ s.size
  hs : s.size ≤ 2000
  hla : la ≤ pos
  hla1 : la ≤ 1

/-- A round's end: the bytes stand, the counters have turned. -/
theorem Ok.turn {s : ByteArray} {rb : Nat} {R R' : Nat → Option Value} {pos en off la pos' la' : Nat} (h : Ok s rb R pos en off la) (hR : ∀ k, k < 1026 ∨ k = 1027 ∨ k = 1028 → R' k = R k)
    (c26 : R' 1026 = some (.int .i64 pos')) (c29 : ∃ x, R' 1029 = some (.int .i64 x)) (c30 : ∃ x, R' 1030 = some (.int .i64 x)) (c31 : ∃ x, R' 1031 = some (.int .i64 x)) (c32 : R' 1032 = some (.int .i64 la'))
    (hp : pos' ≤ en) (hl : la' ≤ pos') (hl1 : la' ≤ 1) : Ok s rb R' pos' en off la' where
  src := (hR 0 (by omega)).trans h.src
  buf := fun i hi => by obtain ⟨x, hx⟩ := h.buf i hi; exact ⟨x, (hR _ (by omega)).trans hx⟩
  own := fun j hj => by obtain ⟨x, hx⟩ := h.own j hj; exact ⟨x, (hR _ (by have := h.hen; omega)).trans hx⟩
  guard := (hR _ (by have := h.hen; omega)).trans h.guard
  cpos := c26
  cen := (hR _ (by omega)).trans h.cen
  coff := (hR _ (by omega)).trans h.coff
  cline := c29
  ccol := c30
  clast := c31
  cla := c32
  hpos := hp
  hen := h.hen
  hoff := h.hoff
  hs := h.hs
  hla := hl
  hla1 := hl1

/-- The token under way: none, or one that began at place t of the text. -/
def Tk (s : ByteArray) (R : Nat → Option Value) (tb : List UInt8) (pos off : Nat) : Option Nat → Prop
  | none => R 1036 = some (.int .i64 (-1))
  | some t => ∃ tp : Nat, R 1036 = some (.int .i64 tp) ∧ tp ≤ pos ∧ t ≤ off + tp ∧ tb = seg s t (off + tp)

theorem Tk.mono {s : ByteArray} {R : Nat → Option Value} {tb : List UInt8} {pos pos' off : Nat} {T : Option Nat} (h : Tk s R tb pos off T) (hp : pos ≤ pos') : Tk s R tb pos' off T := by
  cases T with
  | none => exact h
  | some t => obtain ⟨tp, h1, h2, h3⟩ := h; exact ⟨tp, h1, Nat.le_trans h2 hp, h3⟩

/-- The scanner over the text s: q bytes read, the last character's length la, the token T; F says what the cells from 1037 on hold. -/
def St (s : ByteArray) (rb B b : Nat) (F : Nat → Option Value) (q la : Nat) (T : Option Nat) (w : World) : Prop :=
  ∃ R pos en off tb, IsB B b R tb w ∧ Ok s rb R pos en off la ∧ Tk s R tb (pos - la) off T ∧ off + pos = q ∧ (∀ k, 1037 ≤ k → R k = F k) ∧ B ≤ rb ∧ rb ≠ b ∧
    ∃ p : Int, w.heap[rb]? = some (.cells #[.string s, .int .i64 (off + en : Nat), .int .i64 p] 154 (0, 0))

/-- What stands: all blocks below B; and of the others all but the parser's, the reader's and rows of bytes. -/
def Fr (B b rb : Nat) (w w' : World) : Prop := Below B w w' ∧ ∀ k o, w.heap[k]? = some o → k ≠ b → k ≠ rb → (∀ c fz, o ≠ .cells c 5 fz) → w'.heap[k]? = some o

theorem Fr.refl (B b rb : Nat) (w : World) : Fr B b rb w w := ⟨Below.refl B w, fun _ _ h _ _ _ => h⟩
theorem Fr.trans {B b rb : Nat} {w w1 w2 : World} (h : Fr B b rb w w1) (k : Fr B b rb w1 w2) : Fr B b rb w w2 :=
  ⟨h.1.trans k.1, fun i o hi h1 h2 h3 => k.2 i o (h.2 i o hi h1 h2 h3) h1 h2 h3⟩
theorem Fr.drewN {B b rb : Nat} {w w1 : World} (h : Fr B b rb w w1) (n : Nat) : Fr B b rb w (w1.drewN n) := ⟨below_drewN h.1 n, h.2⟩
theorem Fr.set {B b rb : Nat} {w w1 : World} (h : Fr B b rb w w1) (hB : B ≤ b) (i : Nat) (v : Value) : Fr B b rb w (w1.setCell ⟨b, i, none⟩ v) :=
  ⟨h.1.setCell (p := ⟨b, i, none⟩) hB v, fun k o hk h1 h2 h3 => by rw [Below.heap_setCell _ _ _ _ (fun e => h1 e)]; exact h.2 k o hk h1 h2 h3⟩
theorem Fr.setRb {B b rb : Nat} {w w1 : World} (h : Fr B b rb w w1) (hB : B ≤ rb) (i : Nat) (v : Value) : Fr B b rb w (w1.setCell ⟨rb, i, none⟩ v) :=
  ⟨h.1.setCell (p := ⟨rb, i, none⟩) hB v, fun k o hk h1 h2 h3 => by rw [Below.heap_setCell _ _ _ _ (fun e => h2 e)]; exact h.2 k o hk h1 h2 h3⟩
theorem Fr.of {B b rb : Nat} {w w1 : World} (h : Below B w w1) (k : Lib.OthersKept 5 (some b) w w1) : Fr B b rb w w1 :=
  ⟨h, fun i o hi h1 h2 h3 => k i o hi (fun e => h1 (Option.some.inj e)) h3⟩

/-- The character at place q of the text, or the end's sign. -/
def chr (s : ByteArray) (q : Nat) : Int := if h : q < s.size then s[q].toNat else -1
def nx (s : ByteArray) (q : Nat) : Nat := if q < s.size then q + 1 else q
def nl (s : ByteArray) (q : Nat) : Nat := if q < s.size then 1 else 0
def Plain (s : ByteArray) : Prop := ∀ i (h : i < s.size), 0 < s[i].toNat ∧ s[i].toNat < 128

def NextPost (s : ByteArray) (rb B b : Nat) (F : Nat → Option Value) (q : Nat) (T : Option Nat) (w : World) (e : Ending) (w' : World) : Prop :=
  e = .returned (.int .i32 (chr s q)) ∧ St s rb B b F (nx s q) (nl s q) T w' ∧ Fr B b rb w w'

set_option maxRecDepth 100000 in
set_option maxHeartbeats 2000000 in
theorem next_in (s : ByteArray) (rb B b : Nat) (F R : Nat → Option Value) (pos en off la : Nat) (tb : List UInt8) (T : Option Nat) (w : World)
    (hI : IsB B b R tb w) (hk : Ok s rb R pos en off la) (hT : Tk s R tb pos off T) (hF : ∀ k, 1037 ≤ k → R k = F k) (hrb : B ≤ rb) (hne : rb ≠ b)
    (hr : ∃ p : Int, w.heap[rb]? = some (.cells #[.string s, .int .i64 (off + en : Nat), .int .i64 p] 154 (0, 0))) (hp : pos < en) (ha : Plain s) :
    Calls Tryz.prog 86 #[.pointer (some ⟨b, 0, none⟩)] w (NextPost s rb B b F (off + pos) T w) := by
  have c26 := at_cell hI hk.cpos (by omega)
  obtain ⟨hj, h1⟩ := hk.own pos hp
  have c1 : w.cell? ⟨b, 1 + pos, none⟩ = _ := at_cell hI h1 (by have := hk.hen; omega)
  obtain ⟨col, hcol⟩ := hk.ccol
  have c30 := at_cell hI hcol (by omega)
  obtain ⟨line, hline⟩ := hk.cline
  have c29 := at_cell hI hline (by omega)
  obtain ⟨last, hlast⟩ := hk.clast
  have c31 := at_cell hI hlast (by omega)
  have c32 := at_cell hI hk.cla (by omega)
  have f26 := hI.notFrozen 1026
  have f29 := hI.notFrozen 1029
  have f30 := hI.notFrozen 1030
  have f31 := hI.notFrozen 1031
  have f32 := hI.notFrozen 1032
  obtain ⟨x, hx⟩ : ∃ x : Int, x = s[off + pos].toNat := ⟨_, rfl⟩
  have hx1 : 0 < x := by have := (ha _ hj).1; omega
  have hx2 : x < 128 := by have := (ha _ hj).2; omega
  rw [← hx] at c1
  have hwx : wrap32 x = x := by unfold wrap32; omega
  have hpos := hk.hpos
  have hen := hk.hen
  have hB := hI.1
  have hc : chr s (off + pos) = x := by unfold chr; rw [dif_pos hj, hx]
  have hn : nx s (off + pos) = off + (pos + 1) := by unfold nx; rw [if_pos hj]; omega
  have hl : nl s (off + pos) = 1 := by unfold nl; rw [if_pos hj]
  have Hfin : ∀ (R' : Nat → Option Value) (w' : World), IsB B b R' tb w' → Ok s rb R' (pos + 1) en off 1 → (∀ k, 1036 ≤ k → R' k = R k) → w'.heap[rb]? = w.heap[rb]? → Fr B b rb w w' → NextPost s rb B b F (off + pos) T w (.returned (.int .i32 x)) w' := by
    intro R' w' hI' hk' hR' hh hfr
    have hT' : Tk s R' tb (pos + 1 - 1) off T := by
      cases T with
      | none => exact (hR' _ (by omega)).trans hT
      | some t =>
        obtain ⟨tp, h1, h2, h3, h4⟩ := hT
        exact ⟨tp, (hR' _ (by omega)).trans h1, by omega, h3, h4⟩
    exact ⟨by rw [hc], ⟨R', pos + 1, en, off, tb, hI', by rw [hl]; exact hk', by rw [hl]; exact hT', hn.symm, fun k hk1 => (hR' k (by omega)).trans (hF k hk1), hrb, hne, by rw [hh]; exact hr⟩, hfr⟩
  have HF := Lib.hid Hfin; clear Hfin
  have HX := Lib.hid hx; clear hx
  have HK := Lib.hid hk; clear hk
  have HI := Lib.hid hI; clear hI
  have HC := Lib.hid hcol; clear hcol
  have HL := Lib.hid hline; clear hline
  have HA := Lib.hid hlast; clear hlast
  clear h1 hr hT hF hc hn hl ha
  go_enter Tryz.func86, Tryz.ntmps86
  go_wp2_with fail
  go_quiet (fail)
  clear hwx
  by_cases hnl : x = 10
  · subst hnl
    go_wp2_with fail
    go_light
    go_ret
    refine HF.out (upd (upd (upd (upd (upd (upd R 1026 (.int .i64 (pos + 1))) 1032 (.int .i64 1)) 1030 (.int .i64 (wrap64 (col + 1)))) 1029 (.int .i64 (wrap64 (line + 1)))) 1031 (.int .i64 (wrap64 (col + 1)))) 1030 (.int .i64 0)) _ ?_ ?_ ?_ ?_ ?_
    · refine IsB.set (IsB.set (IsB.set (IsB.set (IsB.set (IsB.set (HI.out.drewN nq) 1026 (by omega) ?_ _) 1032 (by omega) ?_ _) 1030 (by omega) ?_ _) 1029 (by omega) ?_ _) 1031 (by omega) ?_ _) 1030 (by omega) ?_ _ <;>
        simp [upd, HK.out.cpos, HK.out.cla, HC.out, HL.out, HA.out]
    · refine HK.out.turn (fun k hk1 => ?_) ?_ ?_ ?_ ?_ ?_ (by omega) (by omega) (by omega)
      · simp only [upd]; repeat rw [if_neg (by omega)]
      all_goals simp [upd]
    · intro k hk1; simp only [upd]; repeat rw [if_neg (by omega)]
    · repeat rw [Below.heap_setCell _ _ _ _ hne]
      rfl
    · exact ((((((((Fr.refl B b rb w).drewN nq).set hB _ _).set hB _ _).set hB _ _).set hB _ _).set hB _ _).set hB _ _)
  · go_wp2_with fail
    go_light
    go_ret
    refine HF.out (upd (upd (upd R 1026 (.int .i64 (pos + 1))) 1032 (.int .i64 1)) 1030 (.int .i64 (wrap64 (col + 1)))) _ ?_ ?_ ?_ ?_ ?_
    · refine IsB.set (IsB.set (IsB.set (HI.out.drewN nq) 1026 (by omega) ?_ _) 1032 (by omega) ?_ _) 1030 (by omega) ?_ _ <;>
        simp [upd, HK.out.cpos, HK.out.cla, HC.out, HL.out, HA.out]
    · refine HK.out.turn (fun k hk1 => ?_) ?_ ?_ ?_ ?_ ?_ (by omega) (by omega) (by omega)
      · simp only [upd]; repeat rw [if_neg (by omega)]
      · simp [upd]
      · simp [upd, HL.out]
      · simp [upd]
      · simp [upd, HA.out]
      · simp [upd]
    · intro k hk1; simp only [upd]; repeat rw [if_neg (by omega)]
    · repeat rw [Below.heap_setCell _ _ _ _ hne]
      rfl
    · exact (((((Fr.refl B b rb w).drewN nq).set hB _ _).set hB _ _).set hB _ _)

end Go.Proofs.YtblpcpkkjbkakaaGreatDoor
