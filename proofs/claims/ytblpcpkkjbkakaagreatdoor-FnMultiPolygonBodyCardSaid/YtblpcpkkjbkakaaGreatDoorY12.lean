/- Lemmas towards the seat's laws: 1 texts joined. -/
import Derived.Test.YtblpcpkkjbkakaaGreatDoorY11
/- The scanner's state behind a refill. -/
namespace Go.Proofs.YtblpcpkkjbkakaaGreatDoor
open Go Go.RowKit
set_option linter.unusedVariables false
set_option linter.unusedSimpArgs false

theorem meth_read (a : Option Addr) (W : World) : (method 398 130 (.pointer a) "Read").run Tryz.prog W = .ok (204, .pointer a) W := by kernel_rfl

/-- The cells behind a refill of n bytes from place q. -/
structure Filled (s : ByteArray) (rb : Nat) (R R5 : Nat → Option Value) (q n : Nat) : Prop where
  src : R5 0 = some (.iface 130 (.pointer (some ⟨rb, 0, none⟩)))
  buf : ∀ i, i < 1025 → ∃ x : UInt8, R5 (1 + i) = some (.int .u8 x.toNat)
  own : ∀ j, j < n → ∃ h : q + j < s.size, R5 (1 + j) = some (.int .u8 (s[q + j].toNat))
  guard : R5 (1 + n) = some (.int .u8 128)
  c26 : R5 1026 = some (.int .i64 0)
  c27 : R5 1027 = some (.int .i64 n)
  c28 : R5 1028 = some (.int .i64 q)
  rest : ∀ k, 1029 ≤ k → k ≠ 1036 → R5 k = R k

theorem filled {s : ByteArray} {rb : Nat} {R R' R3 : Nat → Option Value} {en off la n : Nat} (hk : Ok s rb R en en off la) (hR' : ∀ k, k ≠ 1036 → R' k = R k)
    (hin : ∀ j, j < n → ∃ h : off + en + j < s.size, R3 (1 + j) = some (.int .u8 (s[off + en + j].toNat))) (hout : ∀ k, k = 0 ∨ 1 + n ≤ k → R3 k = upd R' 1028 (.int .i64 ((off : Int) + en)) k) (hn : n ≤ 1024) :
    Filled s rb R (upd (upd (upd R3 1026 (.int .i64 0)) 1027 (.int .i64 n)) (1 + n) (.int .u8 128)) (off + en) n where
  src := by
    rw [upd_ne _ _ _ _ (by omega), upd_ne _ _ _ _ (by omega), upd_ne _ _ _ _ (by omega), hout 0 (by omega), upd_ne _ _ _ _ (by omega), hR' 0 (by omega)]; exact hk.src
  buf := fun i hi => by
    by_cases h : i = n
    · subst h; exact ⟨128, upd_at _ _ _⟩
    · rw [upd_ne _ _ _ _ (by omega), upd_ne _ _ _ _ (by omega), upd_ne _ _ _ _ (by omega)]
      by_cases h2 : i < n
      · obtain ⟨hh, h3⟩ := hin i h2; exact ⟨_, h3⟩
      · rw [hout _ (by omega), upd_ne _ _ _ _ (by omega), hR' _ (by omega)]; exact hk.buf i hi
  own := fun j hj => by
    obtain ⟨hh, h3⟩ := hin j hj
    exact ⟨hh, by rw [upd_ne _ _ _ _ (by omega), upd_ne _ _ _ _ (by omega), upd_ne _ _ _ _ (by omega)]; exact h3⟩
  guard := upd_at _ _ _
  c26 := by rw [upd_ne _ _ _ _ (by omega), upd_ne _ _ _ _ (by omega), upd_at]
  c27 := by rw [upd_ne _ _ _ _ (by omega), upd_at]
  c28 := by rw [upd_ne _ _ _ _ (by omega), upd_ne _ _ _ _ (by omega), upd_ne _ _ _ _ (by omega), hout _ (by omega), upd_at]; simp
  rest := fun k hk1 hk2 => by rw [upd_ne _ _ _ _ (by omega), upd_ne _ _ _ _ (by omega), upd_ne _ _ _ _ (by omega), hout _ (by omega), upd_ne _ _ _ _ (by omega), hR' _ hk2]
theorem filled36 {R' R3 : Nat → Option Value} {en off n : Nat} (hout : ∀ k, k = 0 ∨ 1 + n ≤ k → R3 k = upd R' 1028 (.int .i64 ((off : Int) + en)) k) (hn : n ≤ 1024) :
    (upd (upd (upd R3 1026 (.int .i64 0)) 1027 (.int .i64 n)) (1 + n) (.int .u8 128)) 1036 = R' 1036 := by
  rw [upd_ne _ _ _ _ (by omega), upd_ne _ _ _ _ (by omega), upd_ne _ _ _ _ (by omega), hout _ (by omega), upd_ne _ _ _ _ (by omega)]

theorem Filled.ok {s : ByteArray} {rb : Nat} {R R5 R6 : Nat → Option Value} {q n pos' la' : Nat} (h : Filled s rb R R5 q n) (hs : s.size ≤ 2000) (hn : n ≤ 1024) (hq : q + n ≤ s.size) (h6 : ∀ k, k < 1026 ∨ k = 1027 ∨ k = 1028 → R6 k = R5 k)
    (c26 : R6 1026 = some (.int .i64 pos')) (c29 : ∃ x, R6 1029 = some (.int .i64 x)) (c30 : ∃ x, R6 1030 = some (.int .i64 x)) (c31 : ∃ x, R6 1031 = some (.int .i64 x)) (c32 : R6 1032 = some (.int .i64 la'))
    (hp : pos' ≤ n) (hl : la' ≤ pos') (hl1 : la' ≤ 1) : Ok s rb R6 pos' n q la' where
  src := (h6 0 (by omega)).trans h.src
  buf := fun i hi => by obtain ⟨x, hx⟩ := h.buf i hi; exact ⟨x, (h6 _ (by omega)).trans hx⟩
  own := fun j hj => by obtain ⟨x, hx⟩ := h.own j hj; exact ⟨x, (h6 _ (by omega)).trans hx⟩
  guard := (h6 _ (by omega)).trans h.guard
  cpos := c26
  cen := (h6 _ (by omega)).trans h.c27
  coff := (h6 _ (by omega)).trans h.c28
  cline := c29
  ccol := c30
  clast := c31
  cla := c32
  hpos := hp
  hen := hn
  hoff := hq
  hs := hs
  hla := hl
  hla1 := hl1

/-- The next character is read: the state. -/
theorem fin_more {s : ByteArray} {rb B b : Nat} {F R R5 R6 : Nat → Option Value} {q n : Nat} {tb : List UInt8} {T : Option Nat} {w w' : World} {x : Int} (h : Filled s rb R R5 q n) (hs : s.size ≤ 2000) (hn0 : 0 < n) (hn : n ≤ 1024) (hq : q + n ≤ s.size)
    (hT : Tk s R5 tb 0 q T) (hF : ∀ k, 1037 ≤ k → R k = F k) (hrb : B ≤ rb) (hne : rb ≠ b) (hx : ∃ hh : q < s.size, x = s[q].toNat)
    (hI : IsB B b R6 tb w') (h6 : ∀ k, k < 1026 ∨ k = 1027 ∨ k = 1028 ∨ 1036 ≤ k → R6 k = R5 k)
    (c26 : R6 1026 = some (.int .i64 1)) (c29 : ∃ x, R6 1029 = some (.int .i64 x)) (c30 : ∃ x, R6 1030 = some (.int .i64 x)) (c31 : ∃ x, R6 1031 = some (.int .i64 x)) (c32 : R6 1032 = some (.int .i64 1))
    (hr : ∃ p : Int, w'.heap[rb]? = some (.cells #[.string s, .int .i64 (q + n : Nat), .int .i64 p] 154 (0, 0))) (hfr : Fr B b rb w w') : NextPost s rb B b F q T w (.returned (.int .i32 x)) w' := by
  obtain ⟨hh, rfl⟩ := hx
  refine ⟨by unfold chr; rw [dif_pos hh], ⟨R6, 1, n, q, tb, hI, ?_, ?_, ?_, fun k hk1 => ?_, hrb, hne, hr⟩, hfr⟩
  · have : nl s q = 1 := by unfold nl; rw [if_pos hh]
    rw [this]
    exact h.ok hs hn hq (fun k hk => h6 k (by omega)) c26 c29 c30 c31 c32 (by omega) (by omega) (by omega)
  · have : nl s q = 1 := by unfold nl; rw [if_pos hh]
    rw [this]
    cases T with
    | none => exact (h6 _ (by omega)).trans hT
    | some t =>
      obtain ⟨tp, h1, h2, h3, h4⟩ := hT
      exact ⟨tp, (h6 _ (by omega)).trans h1, by omega, h3, h4⟩
  · unfold nx; rw [if_pos hh]
  · exact (h6 k (by omega)).trans ((h.rest k (by omega) (by omega)).trans (hF k hk1))

/-- The text is at its end: the state. -/
theorem fin_end {s : ByteArray} {rb B b : Nat} {F R R5 R6 : Nat → Option Value} {q : Nat} {tb : List UInt8} {T : Option Nat} {w w' : World} (h : Filled s rb R R5 q 0) (hs : s.size ≤ 2000) (hq : q = s.size)
    (hT : Tk s R5 tb 0 q T) (hF : ∀ k, 1037 ≤ k → R k = F k) (hrb : B ≤ rb) (hne : rb ≠ b)
    (hI : IsB B b R6 tb w') (h6 : ∀ k, k < 1026 ∨ k = 1027 ∨ k = 1028 ∨ 1036 ≤ k → R6 k = R5 k)
    (c26 : R6 1026 = some (.int .i64 0)) (c29 : ∃ x, R6 1029 = some (.int .i64 x)) (c30 : ∃ x, R6 1030 = some (.int .i64 x)) (c31 : ∃ x, R6 1031 = some (.int .i64 x)) (c32 : R6 1032 = some (.int .i64 0))
    (hr : ∃ p : Int, w'.heap[rb]? = some (.cells #[.string s, .int .i64 (q + 0 : Nat), .int .i64 p] 154 (0, 0))) (hfr : Fr B b rb w w') : NextPost s rb B b F q T w (.returned (.int .i32 (-1))) w' := by
  have hh : ¬ q < s.size := by omega
  refine ⟨by unfold chr; rw [dif_neg hh], ⟨R6, 0, 0, q, tb, hI, ?_, ?_, ?_, fun k hk1 => ?_, hrb, hne, hr⟩, hfr⟩
  · have : nl s q = 0 := by unfold nl; rw [if_neg hh]
    rw [this]
    exact h.ok hs (by omega) (by omega) (fun k hk => h6 k (by omega)) c26 c29 c30 c31 c32 (by omega) (by omega) (by omega)
  · have : nl s q = 0 := by unfold nl; rw [if_neg hh]
    rw [this]
    cases T with
    | none => exact (h6 _ (by omega)).trans hT
    | some t =>
      obtain ⟨tp, h1, h2, h3, h4⟩ := hT
      exact ⟨tp, (h6 _ (by omega)).trans h1, by omega, h3, h4⟩
  · unfold nx; rw [if_neg hh]; rfl
  · exact (h6 k (by omega)).trans ((h.rest k (by omega) (by omega)).trans (hF k hk1))

end Go.Proofs.YtblpcpkkjbkakaaGreatDoor
