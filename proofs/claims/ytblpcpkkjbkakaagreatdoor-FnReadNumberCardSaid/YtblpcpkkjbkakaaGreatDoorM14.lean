/- Lemmas towards the seat's laws: 6 texts joined. -/
import Derived.Test.YtblpcpkkjbkakaaGreatDoorM13
import Derived.Test.YtblpcpkkjbkakaaGreatDoorM02
import Derived.Test.YtblpcpkkjbkakaaGreatDoorM07
import Derived.Test.YtblpcpkkjbkakaaGreatDoorM04
import Derived.Test.YtblpcpkkjbkakaaGreatDoorM06
import Derived.Test.YtblpcpkkjbkakaaGreatDoorM08
import Derived.Test.YtblpcpkkjbkakaaGreatDoorM01
/- ParseFloat, from atof64's outcome on. -/
namespace Go.Proofs.YtblpcpkkjbkakaaGreatDoor
open Go Go.RowKit
set_option linter.unusedVariables false
set_option linter.unusedSimpArgs false

/-- An outcome of atof64: a float, how much was read, the error's code. -/
def O101 (Q : Nat → Int → Nat → Prop) (w : World) (e : Ending) (w' : World) : Prop :=
  ∃ f n c, Q f n c ∧ c ≤ 2 ∧ -1000 ≤ n ∧ n ≤ 1000000 ∧ e = .returned (.tuple #[.float .f64 f, .int .i64 n, ev c]) ∧ Below w.heap.size w w'
theorem p70_gen (S : ByteArray) (Q : Nat → Int → Nat → Prop) (w : World) (h : Calls Tryz.prog 101 #[.string S] w (O101 Q w)) : Calls Tryz.prog 70 #[.string S, .int .i64 64] w (O101 Q w) := by
  have H := Lib.hid h; clear h
  go_enter Tryz.func70, Tryz.ntmps70
  go_wp2_with (go_at_call 101; refine H.out.mono ?_; rintro e w' ⟨f, n, c, h1, h2, h3, h4, rfl, h5⟩)
  exact bodyPost_ret_by (results_tmp3 rfl _ _ _) rfl ⟨f, n, c, h1, h2, h3, h4, rfl, h5⟩
/-- An outcome of the inner ParseFloat. -/
def O45 (S : ByteArray) (Q : Nat → Int → Nat → Prop) (w : World) (e : Ending) (w' : World) : Prop :=
  ∃ f n c, Q f n c ∧ c ≤ 2 ∧ e = .returned (.tuple #[.float .f64 (if n = S.size then f else 0), ev (if n = S.size then c else 2)]) ∧ Below w.heap.size w w'
theorem p45_gen (S : ByteArray) (hS : S.size ≤ 1000000) (Q : Nat → Int → Nat → Prop) (w : World) (h : Calls Tryz.prog 101 #[.string S] w (O101 Q w)) : Calls Tryz.prog 45 #[.string S, .int .i64 64] w (O45 S Q w) := by
  have H := Lib.hid (p70_gen S Q w h); clear h
  go_enter Tryz.func45, Tryz.ntmps45
  go_upto_region 2 with (go_at_call 70; refine H.out.mono ?_; rintro e w' ⟨f, n, c, h1, h2, h3, h4, rfl, h5⟩)
  have HH := Lib.hid (And.intro h1 (And.intro h2 h5)); clear h1 h2 h5
  by_cases hn : n = S.size
  · have hb : (n != (S.size : Int)) = false := by rw [bne_eq_false_iff_eq]; exact hn
    have HN := Lib.hid hn; clear hn
    go_wp2_with fail
    go_ret2
    exact ⟨f, n, c, HH.out.1, HH.out.2.1, by rw [if_pos HN.out, if_pos HN.out]; rfl, HH.out.2.2⟩
  · have hb : (n != (S.size : Int)) = true := by rw [bne_iff_ne]; exact hn
    have HN := Lib.hid hn; clear hn
    go_wp2_with fail
    go_ret2
    exact ⟨f, n, c, HH.out.1, HH.out.2.1, by rw [if_neg HN.out, if_neg HN.out]; rfl, HH.out.2.2⟩

/-- The errors' variables; their blocks lie below B. -/
structure GlR (B : Nat) (w : World) : Prop where
  syn : ∃ ea txt, w.cell? ⟨2, 0, none⟩ = some (.iface 215 (.pointer (some ea))) ∧ ea.block < B ∧ w.cell? ea = some (.string txt) ∧ txt.size ≤ 1000
  rng : ∃ ea txt, w.cell? ⟨3, 0, none⟩ = some (.iface 215 (.pointer (some ea))) ∧ ea.block < B ∧ w.cell? ea = some (.string txt) ∧ txt.size ≤ 1000
theorem GlR.keep {B B' : Nat} {w w' : World} (h : GlR B w) (hb : Below B' w w') (h4 : 4 ≤ B') (hB : B ≤ B') : GlR B w' := by
  obtain ⟨⟨e1, t1, a1, a2, a3, a4⟩, ⟨e2, t2, b1, b2, b3, b4⟩⟩ := h
  exact ⟨⟨e1, t1, (hb.cell (p := ⟨2, 0, none⟩) (by show 2 < B'; omega)).trans a1, a2, (hb.cell (p := e1) (by omega)).trans a3, a4⟩,
    ⟨e2, t2, (hb.cell (p := ⟨3, 0, none⟩) (by show 3 < B'; omega)).trans b1, b2, (hb.cell (p := e2) (by omega)).trans b3, b4⟩⟩
def pfName : ByteArray := ⟨#[80, 97, 114, 115, 101, 70, 108, 111, 97, 116]⟩
/-- The error that strconv gives: its block. -/
def ErrVal (v : Value) (S : ByteArray) (w w' : World) : Prop :=
  ∃ N ex, v = .iface 138 (.pointer (some ⟨N, 0, none⟩)) ∧ w.heap.size ≤ N ∧ w'.heap[N]? = some (.cells #[.string pfName, .string S, ex] 168 (0, 0)) ∧ (w.cell? ⟨2, 0, none⟩ = some ex ∨ w.cell? ⟨3, 0, none⟩ = some ex)
def O28 (S : ByteArray) (Q : Nat → Int → Nat → Prop) (w : World) (e : Ending) (w' : World) : Prop :=
  ∃ f n c v, Q f n c ∧ e = .returned (.tuple #[.float .f64 (if n = S.size then f else 0), v]) ∧ ((if n = S.size then c else 2) = 0 → v = .nilIface) ∧ ((if n = S.size then c else 2) ≠ 0 → ErrVal v S w w') ∧ Below w.heap.size w w'
set_option maxHeartbeats 1000000 in
theorem p28_gen (S : ByteArray) (hS : S.size ≤ 1000000) (Q : Nat → Int → Nat → Prop) (B : Nat) (w : World) (hR : GlR B w) (hsz : 4 ≤ w.heap.size) (h : Calls Tryz.prog 101 #[.string S] w (O101 Q w)) : Calls Tryz.prog 28 #[.string S, .int .i64 64] w (O28 S Q w) := by
  have H := Lib.hid (p45_gen S hS Q w h); clear h
  obtain ⟨x2, hx2⟩ : ∃ x, w.cell? ⟨2, 0, none⟩ = some (.iface 215 x) := by obtain ⟨ea, _, h, _⟩ := hR.syn; exact ⟨_, h⟩
  obtain ⟨x3, hx3⟩ : ∃ x, w.cell? ⟨3, 0, none⟩ = some (.iface 215 x) := by obtain ⟨ea, _, h, _⟩ := hR.rng; exact ⟨_, h⟩
  have HR := Lib.hid (And.intro hx2 hx3); clear hx2 hx3 hR
  go_enter Tryz.func28, Tryz.ntmps28
  go_upto_region 2 with (go_at_call 45; refine H.out.mono ?_; rintro e w' ⟨f, n, c, h1, h2, rfl, h5⟩)
  rename World => w1
  have hc2 : w1.cell? ⟨2, 0, none⟩ = some (.iface 215 x2) := (h5.cell (p := ⟨2, 0, none⟩) (by show 2 < w.heap.size; omega)).trans HR.out.1
  have hc3 : w1.cell? ⟨3, 0, none⟩ = some (.iface 215 x3) := (h5.cell (p := ⟨3, 0, none⟩) (by show 3 < w.heap.size; omega)).trans HR.out.2
  obtain ⟨F, hF⟩ : ∃ F, F = (if n = S.size then f else 0) := ⟨_, rfl⟩
  obtain ⟨C, hC⟩ : ∃ C, C = (if n = S.size then c else 2) := ⟨_, rfl⟩
  have hC2 : C ≤ 2 := by rw [hC]; split <;> omega
  rw [← hF, ← hC]
  have HH := Lib.hid (And.intro h1 (And.intro h5 (And.intro hF hC))); clear h1 h2 h5 hF hC
  have hfin : ∀ v w', (C = 0 → v = .nilIface) → (C ≠ 0 → ErrVal v S w w') → Below w.heap.size w w' → O28 S Q w (.returned (.tuple #[.float .f64 F, v])) w' := by
    intro v w' a1 a2 a3
    exact ⟨f, n, c, v, HH.out.1, by rw [← HH.out.2.2.1], by rw [← HH.out.2.2.2]; exact a1, by rw [← HH.out.2.2.2]; exact a2, a3⟩
  have HF := Lib.hid hfin; clear hfin
  have hle := HH.out.2.1.size
  rcases (show C = 0 ∨ C = 1 ∨ C = 2 by omega) with rfl | rfl | rfl
  · have e0 : ev 0 = .nilIface := rfl
    rw [e0]
    clear e0 hc2 hc3 hle
    go_wp2_with fail
    go_ret2
    exact HF.out _ _ (fun _ => rfl) (fun h => absurd rfl h) HH.out.2.1
  · have e0 : ev 1 = .iface 137 (.int .i64 1) := rfl
    rw [e0]
    have HC := Lib.hid (Tryz.strconv_toError_range pfName S 0 64 _ w1 (by omega) hc3 (.inr ⟨_, _, rfl⟩))
    clear e0 hc2 hc3
    go_wp2_with (go_at_call 46; refine HC.out.mono ?_; rintro e w' ⟨N, rfl, k1, k2, k3⟩)
    go_ret2
    exact HF.out _ _ (fun h => absurd h (by decide)) (fun _ => ⟨N, _, rfl, by omega, k2, .inr HR.out.2⟩) (HH.out.2.1.trans (k3.mono hle))
  · have e0 : ev 2 = .iface 137 (.int .i64 2) := rfl
    rw [e0]
    have HC := Lib.hid (Tryz.strconv_toError_syntax pfName S 0 64 _ w1 (by omega) hc2 (.inr ⟨_, _, rfl⟩))
    clear e0 hc2 hc3
    go_wp2_with (go_at_call 46; refine HC.out.mono ?_; rintro e w' ⟨N, rfl, k1, k2, k3⟩)
    go_ret2
    exact HF.out _ _ (fun h => absurd h (by decide)) (fun _ => ⟨N, _, rfl, by omega, k2, .inl HR.out.1⟩) (HH.out.2.1.trans (k3.mono hle))

/-- ParseFloat on a decimal, with a minus or without. -/
def D28 (neg : Bool) (r : Nat × Nat) (S : ByteArray) (w : World) (e : Ending) (w' : World) : Prop :=
  ∃ v, e = .returned (.tuple #[.float .f64 (sg neg r.1), v]) ∧ (r.2 = 0 → v = .nilIface) ∧ (r.2 ≠ 0 → ErrVal v S w w') ∧ Below w.heap.size w w'
theorem p28_dec (S : ByteArray) (neg : Bool) (i0 D m : Nat) (g gl gp : Nat × Nat) (dot : Bool) (w : World) (hs : S.size ≤ 3000) (hm0 : 0 < m) (hml : i0 + m ≤ S.size)
    (hn : (neg = true ∧ i0 = 1 ∧ ∃ h : 0 < S.size, S[0] = 45) ∨ (neg = false ∧ i0 = 0))
    (hP : Parts (S.data.toList.drop i0) D dot m) (hE : decm (S.data.toList.drop i0) = (S.data.toList.drop i0).length) (hG : GlA g gl gp w) (B : Nat) (hR : GlR B w) :
    Calls Tryz.prog 28 #[.string S, .int .i64 64] w (D28 neg (a64 (readM (S.data.toList.drop i0) m) (readX (S.data.toList.drop i0) m) (readT (S.data.toList.drop i0) m) (setX (S.data.toList.drop i0) m)) S w) := by
  have hfine := a64_fine (readM (S.data.toList.drop i0) m) (readX (S.data.toList.drop i0) m) (readT (S.data.toList.drop i0) m) (setX (S.data.toList.drop i0) m)
  have h := atof64_dec S neg i0 D m g gl gp dot w hs hm0 hml hn hP hE hG
  generalize a64 (readM (S.data.toList.drop i0) m) (readX (S.data.toList.drop i0) m) (readT (S.data.toList.drop i0) m) (setX (S.data.toList.drop i0) m) = r at *
  have hr2 : r.2 ≤ 2 := by
    rcases hfine with ⟨h, -⟩ | h
    · omega
    · rw [h]; decide
  refine (p28_gen S (by omega) (fun f n c => f = sg neg r.1 ∧ n = S.size ∧ c = r.2) B w hR (by have := hG.hs; omega) (h.mono ?_)).mono ?_
  · rintro e w' ⟨rfl, hb⟩
    exact ⟨_, _, _, ⟨rfl, rfl, rfl⟩, hr2, by omega, by omega, rfl, hb⟩
  · rintro e w' ⟨f, n, c, v, ⟨rfl, rfl, rfl⟩, rfl, h1, h2, h3⟩
    rw [if_pos rfl] at h1 h2
    exact ⟨v, by rw [if_pos rfl], h1, h2, h3⟩

/-- ParseFloat on what is no number: an error, or a special word. -/
def N28 (S : ByteArray) (w : World) (e : Ending) (w' : World) : Prop :=
  ∃ f v, e = .returned (.tuple #[.float .f64 f, v]) ∧ ((v = .nilIface ∧ specialWord f) ∨ ErrVal v S w w') ∧ Below w.heap.size w w'
theorem atof64_not (s : ByteArray) (w : World) (hs : s.size ≤ 100000) (h0 : 0 < s.size)
    (h : (s[0] = 45 ∧ s.size = 1) ∨ (isDig s[0] = false ∧ s[0] ≠ 46 ∧ s[0] ≠ 95 ∧ s[0] ≠ 43 ∧ s[0] ≠ 45)) : Calls Tryz.prog 101 #[.string s] w (O101 (fun f n c => (c = 0 ∧ specialWord f) ∨ c = 2) w) := by
  have h1 := special_any s w hs h0
  have h2 := readFloat_not s w hs h0 h
  unfold SpPost at h1
  unfold RfNot at h2
  have H1 := Lib.hid h1; have H2 := Lib.hid h2; clear h h1 h2
  go_enter Tryz.func101, Tryz.ntmps101
  go_upto_region 2 with (go_at_call 124; refine H1.out.mono ?_; rintro e w' ⟨⟨f, n, ok, rfl, k1, k2, k3⟩, rfl⟩)
  cases ok with
  | true =>
    have hk := k1 rfl
    have HK := Lib.hid hk; clear hk k1
    go_wp2_with fail
    exact bodyPost_ret_by (results_tmp3 rfl _ _ _) rfl ⟨f, n, 0, .inl ⟨rfl, HK.out⟩, by omega, by omega, by omega, rfl, Below.refl _ _⟩
  | false =>
    clear k1
    go_wp2_with (go_at_call 125; refine H2.out.mono ?_; rintro e w' ⟨⟨a, b, c, d, x, x1, x2, rfl⟩, rfl⟩)
    exact bodyPost_ret_by (results_tmp3 rfl _ _ _) rfl ⟨0, x, 2, .inr rfl, by omega, by omega, by omega, rfl, Below.refl _ _⟩
theorem p28_not (s : ByteArray) (w : World) (hs : s.size ≤ 100000) (h0 : 0 < s.size) (B : Nat) (hR : GlR B w) (hsz : 4 ≤ w.heap.size)
    (h : (s[0] = 45 ∧ s.size = 1) ∨ (isDig s[0] = false ∧ s[0] ≠ 46 ∧ s[0] ≠ 95 ∧ s[0] ≠ 43 ∧ s[0] ≠ 45)) : Calls Tryz.prog 28 #[.string s, .int .i64 64] w (N28 s w) := by
  refine (p28_gen s (by omega) _ B w hR hsz (atof64_not s w hs h0 h)).mono ?_
  rintro e w' ⟨f, n, c, v, hQ, rfl, h1, h2, h3⟩
  by_cases hn : n = s.size
  · rw [if_pos hn] at h1 h2
    refine ⟨f, v, by rw [if_pos hn], ?_, h3⟩
    rcases hQ with ⟨rfl, hf⟩ | rfl
    · exact .inl ⟨h1 rfl, hf⟩
    · exact .inr (h2 (by decide))
  · rw [if_neg hn] at h1 h2
    exact ⟨0, v, by rw [if_neg hn], .inr (h2 (by decide)), h3⟩

end Go.Proofs.YtblpcpkkjbkakaaGreatDoor
/- The text of strconv's error. -/
namespace Go.Proofs.YtblpcpkkjbkakaaGreatDoor
open Go Go.RowKit
set_option linter.unusedVariables false
set_option linter.unusedSimpArgs false

theorem errStr_any (ea : Addr) (txt : ByteArray) (w : World) (hc : w.cell? ea = some (.string txt)) :
    Calls Tryz.prog 224 #[.pointer (some ea)] w fun e w' => e = .returned (.string txt) ∧ w' = w := by
  go_enter Tryz.func224, Tryz.ntmps224
  go_wp2_with fail
  go_ret
  exact ⟨rfl, rfl⟩
theorem meth215 (ea : Addr) (W : World) : (method (Tryz.prog.types.size + 100) 215 (.pointer (some ea)) "Error").run Tryz.prog W = .ok (224, .pointer (some ea)) W := by
  kernel_rfl

theorem numErr_any (N B : Nat) (S ex : _) (w w0 : World) (hN : w.heap[N]? = some (.cells #[.string pfName, .string S, ex] 168 (0, 0))) (hex : w0.cell? ⟨2, 0, none⟩ = some ex ∨ w0.cell? ⟨3, 0, none⟩ = some ex)
    (hR0 : GlR B w0) (hR : ∀ p : Addr, p.block < B → w.cell? p = w0.cell? p) (hB : B ≤ w.heap.size) (hS : S.size ≤ 1000000) (hp : ∀ x ∈ S.data.toList, PlainB x.toNat) :
    Calls Tryz.prog 206 #[.pointer (some ⟨N, 0, none⟩)] w fun e w' => (∃ t, e = .returned (.string t)) ∧ Below w.heap.size w w' := by
  obtain ⟨ea, txt, rfl, h1, h2, h3⟩ : ∃ ea txt, ex = .iface 215 (.pointer (some ea)) ∧ ea.block < B ∧ w0.cell? ea = some (.string txt) ∧ txt.size ≤ 1000 := by
    obtain ⟨⟨e1, t1, a1, a2, a3, a4⟩, ⟨e2, t2, b1, b2, b3, b4⟩⟩ := hR0
    rcases hex with h | h
    · rw [a1] at h; exact ⟨e1, t1, (Option.some.inj h).symm, a2, a3, a4⟩
    · rw [b1] at h; exact ⟨e2, t2, (Option.some.inj h).symm, b2, b3, b4⟩
  have hc : ∀ i v, (#[.string pfName, .string S, .iface 215 (.pointer (some ea))] : Array Value)[i]? = some v → w.cell? ⟨N, 0 + i, none⟩ = some v := by
    intro i v hv
    rw [Nat.zero_add, cell_of_row _ _ i _ 168 (0, 0) hN]; exact hv
  have hea := (hR ea h1).trans h2
  refine (Tryz.NumError_Error N 0 pfName S (quoteP S) txt 215 (.pointer (some ea)) 224 (.pointer (some ea)) w (hc 0 _ rfl) (hc 1 _ rfl) (hc 2 _ rfl) ?_ ?_ (meth215 ea) ?_ ?_).mono ?_
  · rw [quoteP_size]
    have : pfName.size = 10 := rfl
    omega
  · exact fun W hb => quote_plain S W hS hp
  · exact enters_of Tryz.func224 (by kernel_rfl) rfl
  · exact fun W hb => (errStr_any ea txt W ((hb.cell (p := ea) (by omega)).trans hea)).mono fun e w' h => ⟨h.1, h.2 ▸ Below.refl _ _⟩
  · rintro e w' ⟨rfl, hb⟩
    exact ⟨⟨_, rfl⟩, hb⟩

end Go.Proofs.YtblpcpkkjbkakaaGreatDoor
/- The parser's state; its next token; what is wanted of the package-level variables. -/
namespace Go.Proofs.YtblpcpkkjbkakaaGreatDoor
open Go Go.RowKit
set_option linter.unusedVariables false
set_option linter.unusedSimpArgs false

theorem St.old {s : ByteArray} {rb B b : Nat} {F : Nat → Option Value} {q la : Nat} {T : Option Nat} {w w' : World} (h : St s rb B b F q la T w) (hb : Below w.heap.size w w') : St s rb B b F q la T w' := by
  obtain ⟨R, pos, en, off, tb, hI, hk, hT, hq, hF, hrb, hne, p, hr⟩ := h
  exact ⟨R, pos, en, off, tb, hI.old hb, hk, hT, hq, hF, hrb, hne, p, (hb.block _ (by have := (Array.getElem?_eq_some_iff.1 hr).1; exact this)).trans hr⟩
theorem Rdy.old {s : ByteArray} {rb B b : Nat} {F : Nat → Option Value} {p : Nat} {w w' : World} (h : Rdy s rb B b F p w) (hb : Below w.heap.size w w') : Rdy s rb B b F p w' := by
  rcases h with ⟨h1, h2, T, h3⟩ | ⟨h2, T, h3⟩
  · exact .inl ⟨h1, h2, T, h3.old hb⟩
  · exact .inr ⟨h2, T, h3.old hb⟩
/-- The parser stands ready at place p. -/
def PS (s : ByteArray) (rb B b p : Nat) (w : World) : Prop := ∃ F, LOk F ∧ Rdy s rb B b F p w
theorem PS.old {s : ByteArray} {rb B b p : Nat} {w w' : World} (h : PS s rb B b p w) (hb : Below w.heap.size w w') : PS s rb B b p w' := by
  obtain ⟨F, h1, h2⟩ := h
  exact ⟨F, h1, h2.old hb⟩
theorem Fr.ofOld {B b rb : Nat} {w w' : World} (hb : Below w.heap.size w w') (hB : B ≤ w.heap.size) : Fr B b rb w w' :=
  ⟨hb.mono hB, fun k o ho _ _ _ => by rw [hb.block k (Array.getElem?_eq_some_iff.1 ho).1]; exact ho⟩

/-- All package-level variables that reading a number reads; they lie below B. -/
structure GlN (B : Nat) (g gl gp : Nat × Nat) (w : World) : Prop where
  sc : Gl w
  eo : GlE w
  nu : GlA g gl gp w
  er : GlR B w
  hB : 16 ≤ B ∧ g.1 < B ∧ gl.1 < B ∧ gp.1 < B ∧ B ≤ w.heap.size
theorem GlN.keep {B : Nat} {g gl gp : Nat × Nat} {w w' : World} (h : GlN B g gl gp w) (hb : Below B w w') : GlN B g gl gp w' := by
  obtain ⟨h1, ⟨x, h2⟩, h3, h4, h5⟩ := h
  exact ⟨h1.keep hb (by omega), ⟨x, (hb.cell (p := ⟨1, 0, none⟩) (by show 1 < B; omega)).trans h2⟩, h3.keepB hb (by omega), h4.keep hb (by omega) (Nat.le_refl _), by have := hb.size; omega⟩
theorem GlN.keepO {B : Nat} {g gl gp : Nat × Nat} {w w' : World} (h : GlN B g gl gp w) (hb : Below w.heap.size w w') : GlN B g gl gp w' := h.keep (hb.mono h.hB.2.2.2.2)

/-- Tokens that the grammar lets in: no decimal with a 0 ahead of another digit. -/
def NoPad (T : List (UInt8 × List UInt8)) : Prop := ∀ t ∈ T, t.1 = 49 → padd t.2 = false
/-- The parser stands at place p, the tokens T are ahead. -/
structure PT (s : ByteArray) (rb B b p : Nat) (T : List (UInt8 × List UInt8)) (w : World) : Prop where
  ps : PS s rb B b p w
  tk : ∃ j, toks j (s.data.toList.drop p) = some T
  hp : p ≤ s.size
  np : NoPad T
  pl : Plain s ∧ NoBar s
theorem PT.old {s : ByteArray} {rb B b p : Nat} {T : List (UInt8 × List UInt8)} {w w' : World} (h : PT s rb B b p T w) (hb : Below w.heap.size w w') : PT s rb B b p T w' :=
  ⟨h.ps.old hb, h.tk, h.hp, h.np, h.pl⟩
theorem PT.lt {s : ByteArray} {rb B b p : Nat} {T : List (UInt8 × List UInt8)} {w : World} (h : PT s rb B b p T w) : B ≤ b ∧ b < w.heap.size ∧ rb < w.heap.size ∧ B ≤ rb ∧ rb ≠ b := by
  obtain ⟨F, h1, h2⟩ := h.ps
  exact h2.lt

/-- The outcome of the lexer's next. -/
def NxPost (s : ByteArray) (rb B b : Nat) (T : List (UInt8 × List UInt8)) (w : World) (e : Ending) (w' : World) : Prop :=
  ∃ x v, e = .returned (.tuple #[x, v]) ∧ ((T = [] ∧ ∃ y, v = .iface 109 y) ∨
   (∃ t T', T = t :: T' ∧ x = .string ⟨t.2.toArray⟩ ∧ v = .nilIface ∧ ∃ p', PT s rb B b p' T' w')) ∧ Fr B b rb w w'
theorem next_pt (s : ByteArray) (rb B b p : Nat) (g gl gp : Nat × Nat) (T : List (UInt8 × List UInt8)) (w : World) (h : PT s rb B b p T w) (hG : GlN B g gl gp w) : Calls Tryz.prog 42 #[.pointer (some ⟨b, 0, none⟩)] w (NxPost s rb B b T w) := by
  obtain ⟨⟨F, hF, hR⟩, ⟨j, htk⟩, hp, hnp, hpl, hbar⟩ := h
  have hB := hG.hB
  cases T with
  | nil =>
    have he := toks_nil_end htk
    rw [List.length_drop, ← Lib.size_eq] at he
    refine (lexNext_any s rb B b F p s.size s.size true w hR hp hpl hbar hG.sc hG.eo (by omega) hF (by omega) (TokAt.fin rfl)).mono ?_
    rintro e w' ⟨⟨x, v, rfl, h1, h2⟩, h3⟩
    obtain ⟨y, rfl⟩ := h1 rfl
    exact ⟨x, _, rfl, .inl ⟨rfl, y, rfl⟩, h3⟩
  | cons t T =>
    obtain ⟨t0, E, j', ht0, hta, hsg, htk2, hE, hlt, hple⟩ := tok_at s p j t T hp htk (hnp t (List.mem_cons_self ..))
    refine (lexNext_any s rb B b F p t0 E false w hR hp hpl hbar hG.sc hG.eo (by omega) hF ht0 hta).mono ?_
    rintro e w' ⟨⟨x, v, rfl, h1, h2⟩, h3⟩
    obtain ⟨rfl, rfl, F', h4, h5⟩ := h2 rfl
    exact ⟨_, _, rfl, .inr ⟨t, T, rfl, by rw [hsg], rfl, E, ⟨⟨F', h4, h5⟩, ⟨j', htk2⟩, hE, fun t ht => hnp t (List.mem_cons_of_mem _ ht), hpl, hbar⟩⟩, h3⟩

/-- Where a decimal's mantissa ends. -/
def mantL (l : List UInt8) : Nat := if l[digs l]? = some 46 then digs l + 1 + digs (l.drop (digs l + 1)) else digs l
theorem Parts.mant {l : List UInt8} {D : Nat} {dot : Bool} {m : Nat} (h : Parts l D dot m) : m = mantL l := by
  unfold mantL
  rw [h.hD, h.hm]
  by_cases h46 : l[D]? = some 46
  · rw [if_pos h46, if_pos (h.hdot.1 h46)]
  · have hd : dot = false := by
      cases hdd : dot with
      | false => rfl
      | true => exact absurd (h.hdot.2 hdd) h46
    rw [if_neg h46, hd]; rfl
/-- The word of a decimal, and its error. -/
def a64L (l : List UInt8) : Nat × Nat := a64 (readM l (mantL l)) (readX l (mantL l)) (readT l (mantL l)) (setX l (mantL l))
theorem a64L_fine (l : List UInt8) : Fine (a64L l) := a64_fine _ _ _ _

/-- A number's token: it has its parts. -/
theorem num_tok {t : UInt8 × List UInt8} (h : TokOk t) (hp : t.1 = 49 → padd t.2 = false) (h49 : t.1 = 49) : ∃ D dot m, Parts t.2 D dot m ∧ 0 < m ∧ m ≤ t.2.length ∧ decm t.2 = t.2.length ∧ t.2 ≠ [] := by
  rcases h with ⟨h1, -⟩ | ⟨-, h2, h3⟩ | ⟨h1, -⟩
  · rw [h49] at h1; exact absurd h1 (by decide)
  · have hlen : 0 < t.2.length := List.length_pos_iff.2 h2
    obtain ⟨D, dot, m, hP⟩ := num_parts t.2 (by omega) (by rw [h3, List.take_length]; exact hp h49) (fun c hc => by rw [h3] at hc; simp at hc)
    refine ⟨D, dot, m, hP, ?_, ?_, h3, h2⟩
    · have h1 := hP.hm
      have h2 := hP.hpos
      cases dot with
      | true => simp only [if_true] at h1; omega
      | false => simp only [Bool.false_eq_true, if_false] at h1 h2; omega
    · rcases hP.hexp with ⟨h1 | h1, _⟩ | ⟨h1, _⟩
      · have := lt_of_get h1; omega
      · have := lt_of_get h1; omega
      · omega
  · rw [h49] at h1; exact absurd h1 (by decide)
theorem tok_plainB {t : UInt8 × List UInt8} (h : TokOk t) : ∀ x ∈ t.2, PlainB x.toNat := by
  intro x hx
  obtain ⟨i, hi, hxi⟩ := List.getElem_of_mem hx
  have hg : t.2[i]? = some x := by rw [List.getElem?_eq_getElem hi, hxi]
  rcases h with ⟨-, -, h3⟩ | ⟨-, h2, h3⟩ | ⟨h1, h2⟩
  · have := lets_let t.2 i x (by omega) hg
    rw [isLet_iff] at this
    unfold PlainB; omega
  · rcases decm_chars t.2 h3 h2 i x hg with h | h | h | h | h
    · rw [isDig_iff] at h; unfold PlainB; omega
    · subst h; unfold PlainB; decide
    · rw [isLet_iff] at h; unfold PlainB; omega
    · subst h; unfold PlainB; decide
    · subst h; unfold PlainB; decide
  · rw [h2] at hx
    have hx2 : x = t.1 := by simpa using hx
    rw [hx2]
    rw [isSign_iff] at h1
    unfold PlainB; omega

/-- strconv's reading of a token. -/
def PTok (t : UInt8 × List UInt8) (w : World) (e : Ending) (w' : World) : Prop :=
  ∃ f v, e = .returned (.tuple #[.float .f64 f, v]) ∧
    ((v = .nilIface ∧ t.1 = 49 ∧ (a64L t.2).2 = 0 ∧ f = (a64L t.2).1) ∨ (v = .nilIface ∧ specialWord f ∧ t.1 ≠ 49) ∨ (ErrVal v ⟨t.2.toArray⟩ w w' ∧ (t.1 = 49 → (a64L t.2).2 ≠ 0))) ∧ Below w.heap.size w w'
theorem tok_parse (t : UInt8 × List UInt8) (hok : TokOk t) (hp : t.1 = 49 → padd t.2 = false) (hlen : t.2.length ≤ 2000) (B : Nat) (g gl gp : Nat × Nat) (w : World) (hG : GlN B g gl gp w) :
    Calls Tryz.prog 28 #[.string ⟨t.2.toArray⟩, .int .i64 64] w (PTok t w) := by
  have hB := hG.hB
  have hsz : (ByteArray.mk t.2.toArray).size = t.2.length := by simp [ByteArray.size]
  have hdat : (ByteArray.mk t.2.toArray).data.toList = t.2 := by simp
  by_cases h49 : t.1 = 49
  · obtain ⟨D, dot, m, hP, hm0, hml, hdc, hne⟩ := num_tok hok hp h49
    have hdr : (ByteArray.mk t.2.toArray).data.toList.drop 0 = t.2 := by rw [hdat]; rfl
    refine (p28_dec ⟨t.2.toArray⟩ false 0 D m g gl gp dot w (by omega) hm0 (by omega) (.inr ⟨rfl, rfl⟩) (by rw [hdr]; exact hP) (by rw [hdr]; exact hdc) hG.nu B hG.er).mono ?_
    rintro e w' ⟨v, rfl, h1, h2, h3⟩
    rw [hdr, hP.mant] at h1 h2 ⊢
    refine ⟨_, v, rfl, ?_, h3⟩
    by_cases h0 : (a64L t.2).2 = 0
    · exact .inl ⟨h1 h0, h49, h0, rfl⟩
    · exact .inr (.inr ⟨h2 h0, fun _ => h0⟩)
  · have hlen0 : 0 < (ByteArray.mk t.2.toArray).size := by
      rw [hsz]
      rcases hok with ⟨-, h2, -⟩ | ⟨-, h2, -⟩ | ⟨-, h2⟩
      · exact List.length_pos_iff.2 h2
      · exact List.length_pos_iff.2 h2
      · rw [h2]; simp
    have h0 : t.2[0]? = some (ByteArray.mk t.2.toArray)[0] := by rw [← get_at _ 0 hlen0, hdat]
    refine (p28_not ⟨t.2.toArray⟩ w (by omega) hlen0 B hG.er (by omega) ?_).mono ?_
    · obtain ⟨c, hc⟩ : ∃ c, c = (ByteArray.mk t.2.toArray)[0] := ⟨_, rfl⟩
      rw [← hc] at h0 ⊢
      rcases hok with ⟨-, h2, h3⟩ | ⟨h1, -⟩ | ⟨h1, h2⟩
      · have hl := lets_let t.2 0 _ (by omega) h0
        rw [isLet_iff] at hl
        refine .inr ⟨?_, ?_, ?_, ?_, ?_⟩
        · cases hd : isDig c with
          | false => rfl
          | true => rw [isDig_iff] at hd; omega
        all_goals (intro e; rw [byte_eq] at e; simp at e; omega)
      · exact absurd h1 h49
      · rw [h2] at h0
        have h0' : t.1 = c := by simpa using h0
        by_cases h45 : t.1 = 45
        · exact .inl ⟨by rw [← h0']; exact h45, by rw [hsz, h2]; simp⟩
        · rw [isSign_iff] at h1
          rw [byte_eq] at h45
          simp at h45
          refine .inr ⟨?_, ?_, ?_, ?_, ?_⟩
          · rw [← h0']
            cases hd : isDig t.1 with
            | false => rfl
            | true => rw [isDig_iff] at hd; omega
          all_goals (rw [← h0']; intro e; rw [byte_eq] at e; simp at e; omega)
    · rintro e w' ⟨f, v, rfl, h1, h2⟩
      refine ⟨f, v, rfl, ?_, h2⟩
      rcases h1 with ⟨h, h3⟩ | h
      · exact .inr (.inl ⟨h, h3, h49⟩)
      · exact .inr (.inr ⟨h, fun h => absurd h h49⟩)

end Go.Proofs.YtblpcpkkjbkakaaGreatDoor
/- A finite float times -1. -/
namespace Go.Proofs.YtblpcpkkjbkakaaGreatDoor
open Go Ieee
set_option linter.unusedVariables false
set_option linter.unusedSimpArgs false

theorem cut_exact (m : Nat) (h : 0 < m) : Toward.even.cut false (m * 2 ^ 52) 52 = m := by
  have hl : 52 ≤ (m * 2 ^ 52).log2 := by
    have h1 : ¬ (m * 2 ^ 52).log2 < 52 := by
      intro hc
      have := (Nat.log2_lt (by omega)).1 hc
      omega
    omega
  have hm : 1 <<< (min 52 ((m * 2 ^ 52).log2 + 2)) = 2 ^ 52 := by rw [Nat.min_eq_left (by omega)]; rfl
  unfold Toward.cut
  dsimp only
  rw [hm, Nat.mul_div_cancel _ (Nat.two_pow_pos 52), Nat.mul_mod_left]
  have : (decide (2 ^ 52 < 2 * 0) || 2 ^ 52 == 2 * 0 && m % 2 == 1) = false := by
    have h1 : decide (2 ^ 52 < 2 * 0) = false := by decide
    have h2 : ((2 ^ 52 : Nat) == 2 * 0) = false := by decide
    rw [h1, h2]; rfl
  rw [this]; rfl
theorem log2_mul52 (m : Nat) (h : 0 < m) : (m * 2 ^ 52).log2 = m.log2 + 52 := by
  rw [Nat.log2_eq_iff (by have := Nat.two_pow_pos 52; exact Nat.pos_iff_ne_zero.1 (Nat.mul_pos h this))]
  have h1 := Nat.log2_self_le (Nat.pos_iff_ne_zero.1 h)
  have h2 : m < 2 ^ (m.log2 + 1) := Nat.lt_log2_self
  constructor
  · rw [Nat.pow_add]; exact Nat.mul_le_mul_right _ h1
  · rw [show m.log2 + 52 + 1 = (m.log2 + 1) + 52 by omega, Nat.pow_add]
    exact Nat.mul_lt_mul_of_pos_right h2 (Nat.two_pow_pos 52)

theorem near_back (x : Nat) (hx : x < 2047 * 2 ^ 52) : ∃ m p, mk false x = .number false m p ∧ double.nearest false (m * 2 ^ 52) (p - 52) = x := by
  have hl : double.leastPlace = -1074 := by decide +kernel
  have hb : double.binade = 2 ^ 52 := rfl
  have hi : double.infRung = 2047 * 2 ^ 52 := by decide +kernel
  have hf : (double.fractionBits : Int) = 52 := rfl
  unfold mk
  rw [hl, hb, hi]
  by_cases ha : x < 2 ^ 52
  · rw [if_pos ha]
    refine ⟨x, -1074, rfl, ?_⟩
    unfold Format.nearest
    by_cases h0 : x = 0
    · subst h0; rw [if_pos (Nat.zero_mul _), word_sg, sg_false]
    · rw [if_neg (by omega)]
      dsimp only
      rw [word_sg, sg_false, hf, hl, hb, hi, log2_mul52 x (by omega)]
      have hx2 := log2_le x 51 ha
      have hlast : max ((-1074 : Int) - 52 + ((x.log2 + 52 : Nat) : Int) - 52) (-1074) = -1074 := by omega
      rw [hlast]
      have e1 : ((-1074 : Int) - 52 - -1074).toNat = 0 := rfl
      have e2 : ((-1074 : Int) - (-1074 - 52)).toNat = 52 := rfl
      have e3 : ((-1074 : Int) - -1074).toNat = 0 := rfl
      rw [e1, e2, e3, Nat.shiftLeft_zero, cut_exact x (by omega)]
      omega
  · rw [if_neg ha, if_pos hx]
    have hmod := Nat.mod_lt x (Nat.two_pow_pos 52)
    have hdiv : 1 ≤ x / 2 ^ 52 := by omega
    refine ⟨2 ^ 52 + x % 2 ^ 52, -1074 + ((x / 2 ^ 52 - 1 : Nat) : Int), rfl, ?_⟩
    obtain ⟨m, hm⟩ : ∃ m, m = 2 ^ 52 + x % 2 ^ 52 := ⟨_, rfl⟩
    obtain ⟨q, hq⟩ : ∃ q : Nat, q = x / 2 ^ 52 - 1 := ⟨_, rfl⟩
    rw [← hm, ← hq]
    have hm1 : m.log2 = 52 := by rw [Nat.log2_eq_iff (by omega)]; omega
    unfold Format.nearest
    rw [if_neg (by omega)]
    dsimp only
    rw [word_sg, sg_false, hf, hl, hb, hi, log2_mul52 m (by omega), hm1]
    have hlast : max ((-1074 : Int) + (q : Int) - 52 + ((52 + 52 : Nat) : Int) - 52) (-1074) = -1074 + q := by omega
    rw [hlast]
    have e1 : ((-1074 : Int) + (q : Int) - 52 - (-1074 + (q : Int))).toNat = 0 := by omega
    have e2 : ((-1074 : Int) + (q : Int) - (-1074 + (q : Int) - 52)).toNat = 52 := by omega
    have e3 : ((-1074 : Int) + (q : Int) - -1074).toNat = q := by omega
    have hqm : q * 2 ^ 52 + m = x := by omega
    have hm0 : 0 < m := by omega
    clear hm hq hdiv hmod hm1 hlast
    rw [e1, e2, e3, Nat.shiftLeft_zero, cut_exact m hm0, hqm]
    exact Nat.min_eq_left (Nat.le_of_lt hx)

theorem mul_minus (x : Nat) (hx : x < 2047 * 2 ^ 52) : double.mul x 13830554455654793216 = some (sg true x) := by
  obtain ⟨m, p, e1, e2⟩ := near_back x hx
  have hc : double.read 13830554455654793216 = .number true 4503599627370496 (-52) := by decide +kernel
  unfold Format.mul
  rw [read_plain x (by unfold SW; omega), e1, hc]
  show some (double.nearest (false ^^ true) (m * 4503599627370496) (p + -52)) = _
  have e3 : p + -52 = p - 52 := by omega
  rw [show (false ^^ true) = true from rfl, nearest_sg, e3]
  have e4 : (4503599627370496 : Nat) = 2 ^ 52 := by decide
  rw [e4, e2]

end Go.Proofs.YtblpcpkkjbkakaaGreatDoor
/- IsNaN and IsInf. -/
namespace Go.Proofs.YtblpcpkkjbkakaaGreatDoor
open Go Go.RowKit
set_option linter.unusedVariables false
set_option linter.unusedSimpArgs false

theorem call8 (n : Nat) (w : World) : (callFunc 8 #[.float .f64 n]).run Tryz.prog w = .ok (.value (.int .u64 n)) w := by
  rw [run_callFunc_extern Tryz.func8 (by kernel_rfl) (by kernel_rfl) (by kernel_rfl) (show Extern.find _ = some Extern.MathFloatBits.float64bits by kernel_rfl)]
  rfl
theorem call99 (n : Int) (w : World) : (callFunc 99 #[.int .u64 n]).run Tryz.prog w = .ok (.value (.float .f64 n.toNat)) w := by
  rw [run_callFunc_extern Tryz.func99 (by kernel_rfl) (by kernel_rfl) (by kernel_rfl) (show Extern.find _ = some Extern.MathFloatBits.float64frombits by kernel_rfl)]
  rfl

def nanw (x : Nat) : Bool := FloatKind.f64.format.order x x != some Ordering.eq
def M63 : Nat := 9223372036854775807
theorem andNot63 (a : Nat) (ha : a < 18446744073709551616) : bits BinOp.andNot IntKind.u64 (a : Int) 9223372036854775808 = ((a &&& M63 : Nat) : Int) := by
  have h1 : (BitVec.ofInt 64 (a : Int)) = BitVec.ofNat 64 a := by simp
  have h2 : ~~~ (BitVec.ofInt 64 (9223372036854775808 : Int)) = BitVec.ofNat 64 M63 := by decide +kernel
  unfold bits
  show IntKind.u64.wrap (((BitVec.ofInt 64 (a : Int)) &&& ~~~ (BitVec.ofInt 64 (9223372036854775808 : Int))).toNat : Int) = _
  rw [h1, h2, BitVec.toNat_and, BitVec.toNat_ofNat, BitVec.toNat_ofNat, Nat.mod_eq_of_lt (by simpa using ha), Nat.mod_eq_of_lt (by decide +kernel)]
  have h3 : a &&& M63 ≤ a := Nat.and_le_left
  simp only [IntKind.wrap_u64]
  omega
def infw (x : Nat) : Bool := FloatKind.f64.format.order (x &&& M63) 9218868437227405311 == some Ordering.gt

theorem isNaN_any (x : Nat) (w : World) : Calls Tryz.prog 43 #[.float .f64 x] w (fun e w' => e = .returned (.bool (nanw x)) ∧ w = w') := by
  go_enter Tryz.func43, Tryz.ntmps43
  go_wp2_with fail
  go_ret
  exact ⟨rfl, rfl⟩
theorem abs_any (x : Nat) (w : World) (hx : x < 18446744073709551616) : Calls Tryz.prog 69 #[.float .f64 x] w (fun e w' => e = .returned (.float .f64 (x &&& M63)) ∧ w = w') := by
  have h8 := call8
  have h99 := call99
  have ha := andNot63 x hx
  go_enter Tryz.func69, Tryz.ntmps69
  go_wp2_with fail
  go_ret
  exact ⟨rfl, rfl⟩
theorem isInf_any (x : Nat) (w : World) (hx : x < 18446744073709551616) : Calls Tryz.prog 44 #[.float .f64 x, .int .i64 0] w (fun e w' => e = .returned (.bool (infw x)) ∧ w = w') := by
  go_enter Tryz.func44, Tryz.ntmps44
  go_wp2_with (go_at_call 69; refine (abs_any _ _ hx).mono ?_; rintro e w' ⟨rfl, rfl⟩)
  go_ret
  exact ⟨rfl, rfl⟩

theorem special_refused (x : Nat) (h : specialWord x) : (nanw x || infw x) = true := by
  rcases h with rfl | rfl | rfl <;> decide +kernel
theorem fin_not (x : Nat) (hx : x < 2047 * 2 ^ 52) : nanw x = false ∧ infw x = false := by
  have hl : Ieee.double.leastPlace = -1074 := by decide +kernel
  have hb : Ieee.double.binade = 2 ^ 52 := rfl
  have hi : Ieee.double.infRung = 2047 * 2 ^ 52 := by decide +kernel
  obtain ⟨m, p, e1, l1, l2⟩ : ∃ m : Nat, ∃ p : Int, mk false x = .number false m p ∧ m < 2 ^ 53 ∧ p ≤ 971 := by
    unfold mk
    rw [hl, hb, hi]
    by_cases ha : x < 2 ^ 52
    · rw [if_pos ha]; exact ⟨x, _, rfl, by omega, by omega⟩
    · rw [if_neg ha, if_pos hx]
      exact ⟨_, _, rfl, by have := Nat.mod_lt x (Nat.two_pow_pos 52); omega, by omega⟩
  have hxl : x < SW := by unfold SW; omega
  have hrd := read_plain x hxl
  rw [e1] at hrd
  constructor
  · unfold nanw
    show (Ieee.double.order x x != some Ordering.eq) = false
    unfold Ieee.Format.order
    rw [hrd]
    show (some (compare (Ieee.signed false m _) (Ieee.signed false m _)) != some Ordering.eq) = false
    have : compare (Ieee.signed false m (p - min p p).toNat) (Ieee.signed false m (p - min p p).toNat) = Ordering.eq := by rw [Int.compare_eq_eq]
    rw [this]; rfl
  · have hand : x &&& M63 = x := by
      show x &&& (2 ^ 63 - 1) = x
      rw [Nat.and_two_pow_sub_one_eq_mod, Nat.mod_eq_of_lt (by omega)]
    have hmax : Ieee.double.read 9218868437227405311 = .number false 9007199254740991 971 := by decide +kernel
    unfold infw
    rw [hand]
    show (Ieee.double.order x 9218868437227405311 == some Ordering.gt) = false
    unfold Ieee.Format.order
    rw [hrd, hmax]
    show (some (compare (Ieee.signed false m (p - min p 971).toNat) (Ieee.signed false 9007199254740991 (971 - min p 971).toNat)) == some Ordering.gt) = false
    apply beq_false_of_ne
    intro h
    have h2 := Option.some.inj h
    rw [Int.compare_eq_gt] at h2
    have hmin : min p 971 = p := by omega
    rw [hmin] at h2
    have h3 : (p - p).toNat = 0 := by omega
    rw [h3] at h2
    have h4 : ((9007199254740991 <<< (971 - p).toNat : Nat) : Int) < ((m <<< 0 : Nat) : Int) := h2
    rw [Nat.shiftLeft_eq, Nat.shiftLeft_zero] at h4
    have h5 : 9007199254740991 * 1 ≤ 9007199254740991 * 2 ^ (971 - p).toNat := Nat.mul_le_mul_left _ Nat.one_le_two_pow
    omega

end Go.Proofs.YtblpcpkkjbkakaaGreatDoor
/- The reference's tokens: the walk of spec.tokens. -/
namespace Go.Proofs.YtblpcpkkjbkakaaGreatDoor
open Go Go.RowKit
set_option linter.unusedVariables false
set_option linter.unusedSimpArgs false

theorem isLetter_yes (c : UInt8) (w : World) (h : isLet c = true) : Calls Tryz.prog 38 #[.int .u8 c.toNat] w fun e w' => e = .returned (.bool true) ∧ w = w' := h ▸ isLetter_any c w
theorem isLetter_no (c : UInt8) (w : World) (h : isLet c = false) : Calls Tryz.prog 38 #[.int .u8 c.toNat] w fun e w' => e = .returned (.bool false) ∧ w = w' := h ▸ isLetter_any c w
theorem decimal_d (s : ByteArray) (w : World) (hs : s.size ≤ 1000000) (m n : Nat) (h : decm (s.data.toList.drop m) = n) :
    Calls Tryz.prog 39 #[.string (s.extract m s.size)] w fun e w' => e = .returned (.int .i64 n) ∧ w = w' := by
  have := decimal_any (s.extract m s.size) w (by simp; omega)
  rw [extract_drop, h] at this
  exact this

theorem info62 : (Tryz.prog.info? 62).map (fun i => (i.zero, i.size, i.bytes)) = some (some (.agg #[.int .u8 0, .string ⟨#[]⟩]), 2, 24) := by kernel_rfl
theorem info9 : (Tryz.prog.info? 9).map (fun i => (i.zero, i.size, i.bytes)) = some (some (.string ⟨#[]⟩), 1, 16) := by kernel_rfl

/-- A token's two cells. -/
def tcell (t : UInt8 × List UInt8) : List Value := [.int .u8 t.1.toNat, .string ⟨t.2.toArray⟩]
def tcells (T : List (UInt8 × List UInt8)) : List Value := T.flatMap tcell
theorem tcells_snoc (T : List (UInt8 × List UInt8)) (t) : tcells (T ++ [t]) = tcells T ++ tcell t := by simp [tcells]
theorem tcells_length (T : List (UInt8 × List UInt8)) : (tcells T).length = T.length * 2 := by
  induction T with
  | nil => rfl
  | cons t T ih => simp only [tcells, List.flatMap_cons, List.length_append, List.length_cons] at *; rw [ih]; simp [tcell]; omega
theorem extract_take (s : ByteArray) (k n : Nat) : s.extract k (k + n) = ⟨((s.data.toList.drop k).take n).toArray⟩ := by
  apply ByteArray.ext
  simp [ByteArray.data_extract]
  apply Array.toList_inj.1
  simp [List.extract_eq_take_drop]

/-- What the loop of 'tokens' holds at its head. -/
def TokRel (B : Nat) (s : ByteArray) (w : World) (v j i : Value) (wr : World) : Prop :=
  ∃ (k : Nat) (T : List (UInt8 × List UInt8)) (b : Bool), k ≤ s.size ∧ T.length ≤ k ∧ j = .bool b ∧ i = .int .i64 k ∧
    wr.ownsRow B 62 2 v T.length (tcells T) ∧ Below B w wr ∧ toks false s.data.toList = (toks b (s.data.toList.drop k)).map (T ++ ·)

/-- What 'tokens' leaves. -/
def TokPost (B : Nat) (s : ByteArray) (w : World) (e : Ending) (w' : World) : Prop :=
  (∃ v T, e = .returned (.tuple #[v, .bool true]) ∧ toks false s.data.toList = some T ∧ T.length ≤ s.size ∧ w'.ownsRow B 62 2 v T.length (tcells T) ∧ Below B w w') ∨
  (e = .returned (.tuple #[.slice none 0 0, .bool false]) ∧ toks false s.data.toList = none ∧ Below B w w')

/-- One token more. -/
theorem tok_more {B : Nat} {s : ByteArray} {w wr w1 : World} {v v1 : Value} {k n : Nat} {T : List (UInt8 × List UInt8)} {b b1 : Bool} {t : UInt8 × List UInt8} {news : List Value} {o : Obj}
    (hn : 0 < n) (hkn : k + n ≤ s.size) (hT : T.length ≤ k) (hown : wr.ownsRow B 62 2 v T.length (tcells T)) (hb : Below B w wr) (hB : B ≤ wr.heap.size)
    (h : toks false s.data.toList = (toks b (s.data.toList.drop k)).map (T ++ ·))
    (hstep : toks b (s.data.toList.drop k) = (toks b1 (s.data.toList.drop (k + n))).map (t :: ·))
    (hnews : news = tcell t) (hown1 : w1.ownsRow B 62 2 v1 (T.length + 1) (tcells T ++ news)) (hg : (wr.alloc o).grownBy w1 v.ownBlock) :
    TokRel B s w v1 (.bool b1) (.int .i64 ((k + n : Nat) : Int)) w1 := by
  subst hnews
  refine ⟨k + n, T ++ [t], b1, hkn, by simp; omega, rfl, rfl, by rw [tcells_snoc]; simpa using hown1, ?_, ?_⟩
  · refine (hb.alloc hB _).grown hg (by simp; omega) (fun q hq => (hown.lt q hq).1)
  · rw [h, hstep]
    cases toks b1 (s.data.toList.drop (k + n)) <;> simp


section
variable {s : ByteArray} {k : Nat} {b : Bool}
theorem step_blank (h : k < s.size) (hb : isBlank s[k] = true) : toks b (s.data.toList.drop k) = toks false (s.data.toList.drop (k + 1)) := by
  rw [drop_at s k h, toks_blank _ _ _ hb]
theorem blank_not (c : UInt8) (h : isSign c = true) : isBlank c = false := by
  rw [Bool.eq_false_iff]; intro e
  have h1 := (isSign_iff c).1 h; have h2 := (isBlank_iff c).1 e; omega
theorem blank_not_let (c : UInt8) (h : isLet c = true) : isBlank c = false ∧ isSign c = false := by
  have h1 := (isLet_iff c).1 h
  constructor
  · rw [Bool.eq_false_iff]; intro e; have h2 := (isBlank_iff c).1 e; omega
  · rw [Bool.eq_false_iff]; intro e; have h2 := (isSign_iff c).1 e; omega
theorem step_sign (h : k < s.size) (hs : isSign s[k] = true) (hj : ¬ (s[k] = 45 ∧ b = true)) :
    toks b (s.data.toList.drop k) = (toks false (s.data.toList.drop (k + 1))).map ((s[k], [s[k]]) :: ·) := by
  rw [drop_at s k h, toks_sign _ _ _ (blank_not _ hs) hs, if_neg hj]
theorem fail_sign (h : k < s.size) (hs : s[k] = 45) : toks true (s.data.toList.drop k) = none := by
  rw [drop_at s k h, toks_sign _ _ _ (by rw [hs]; rfl) (by rw [hs]; rfl), if_pos ⟨hs, rfl⟩]
theorem step_word (h : k < s.size) (hl : isLet s[k] = true) (n : Nat) (hn : lets (s.data.toList.drop k) = n) :
    toks false (s.data.toList.drop k) = (toks true (s.data.toList.drop (k + n))).map ((97, (s.data.toList.drop k).take n) :: ·) := by
  have h2 := blank_not_let _ hl
  have : s.data.toList.drop (k + n) = (s.data.toList.drop k).drop n := by rw [List.drop_drop]
  rw [this]
  rw [drop_at s k h] at hn ⊢
  rw [toks_word _ _ _ h2.1 h2.2 hl, hn]; rfl
theorem fail_word (h : k < s.size) (hl : isLet s[k] = true) : toks true (s.data.toList.drop k) = none := by
  have h2 := blank_not_let _ hl
  rw [drop_at s k h, toks_word _ _ _ h2.1 h2.2 hl]; rfl
theorem step_num (h : k < s.size) (h1 : isBlank s[k] = false) (h2 : isSign s[k] = false) (hl : isLet s[k] = false) (n : Nat) (hn : decm (s.data.toList.drop k) = n) (h0 : n ≠ 0) :
    toks false (s.data.toList.drop k) = (toks true (s.data.toList.drop (k + n))).map ((49, (s.data.toList.drop k).take n) :: ·) := by
  have : s.data.toList.drop (k + n) = (s.data.toList.drop k).drop n := by rw [List.drop_drop]
  rw [this]
  rw [drop_at s k h] at hn ⊢
  rw [toks_num _ _ _ h1 h2 hl, hn, if_neg (by simp [h0])]
theorem fail_num (h : k < s.size) (h1 : isBlank s[k] = false) (h2 : isSign s[k] = false) (hl : isLet s[k] = false) (hn : decm (s.data.toList.drop k) = 0 ∨ b = true) :
    toks b (s.data.toList.drop k) = none := by
  rw [drop_at s k h] at hn ⊢
  rw [toks_num _ _ _ h1 h2 hl, if_pos hn]
theorem tok_fail {B : Nat} {w wr : World} {T : List (UInt8 × List UInt8)} (hb : Below B w wr) (h : toks false s.data.toList = (toks b (s.data.toList.drop k)).map (T ++ ·)) (hf : toks b (s.data.toList.drop k) = none) :
    TokPost B s w (.returned (.tuple #[.slice none 0 0, .bool false])) wr := .inr ⟨rfl, by rw [h, hf]; rfl, hb⟩
theorem tok_fail2 {B : Nat} {w wr w1 : World} {v : Value} {T : List (UInt8 × List UInt8)} {o : Obj} {xs : List Value} (hb : Below B w wr) (hB : B ≤ wr.heap.size) (hown : wr.ownsRow B 62 2 v T.length xs) (hg : (wr.alloc o).grownBy w1 v.ownBlock)
    (h : toks false s.data.toList = (toks b (s.data.toList.drop k)).map (T ++ ·)) (hf : toks b (s.data.toList.drop k) = none) :
    TokPost B s w (.returned (.tuple #[.slice none 0 0, .bool false])) w1 :=
  .inr ⟨rfl, by rw [h, hf]; rfl, (hb.alloc hB _).grown hg (by simp; omega) (fun q hq => (hown.lt q hq).1)⟩
end

theorem cells_lit2 (w : World) (x y : Value) (t : TypeId) : ∀ j u, [x, y][j]? = some u → (w.alloc (.cells #[x, y] t)).cell? ((⟨w.heap.size, 0, none⟩ : Addr).add j) = some u := by
  intro j u hj
  rw [show (⟨w.heap.size, 0, none⟩ : Addr).add j = ⟨w.heap.size, j, none⟩ by unfold Addr.add; split <;> simp_all]
  rw [cell_of_row _ _ j #[x, y] t (0, 0) (heap_alloc_new w _)]
  match j, hj with
  | 0, hj => simpa using hj
  | 1, hj => simpa using hj

set_option maxRecDepth 100000 in
set_option maxHeartbeats 2000000 in
theorem tokens_any (s : ByteArray) (w : World) (hs : s.size ≤ 100000) :
    Calls Tryz.prog 23 #[.string s] w (TokPost w.heap.size s w) := by
  obtain ⟨i0, hi, hz0, hz1, hz2⟩ := info_parts info62
  obtain ⟨B, hB⟩ : ∃ B, B = w.heap.size := ⟨_, rfl⟩
  rw [← hB]
  have HB := Lib.hid hB; clear hB
  go_enter Tryz.func23, Tryz.ntmps23
  go_wp2
  go_loopw [2, 4, 5] (fun v j i wr => TokRel B s w v j i wr) (fun _ _ i _ => s.size - (intOf i).toNat)
  case atStart => exact ⟨0, [], false, Nat.zero_le _, Nat.zero_le _, rfl, rfl, World.ownsRow_nil _ _ _ _, Below.refl _ _, by simp⟩
  case round =>
    obtain ⟨k, T, b, hk, hT, rfl, rfl, hown, hnx, htk⟩ := hrel
    have hBr : B ≤ wr.heap.size := by have := hnx.size; have := HB.out; omega
    have HT := Lib.hid htk; clear htk
    by_cases hlt : k < s.size
    · by_cases hbl : isBlank s[k] = true
      · have hst := Lib.hid (step_blank (b := b) hlt hbl)
        have hc := (isBlank_iff _).1 hbl
        clear hbl
        rcases hc with hc | hc | hc | hc
        all_goals
          go_wp2_with fail
          go_roundw
          case rel => go_light; exact ⟨k + 1, T, false, by omega, by omega, rfl, by go_num, hown, hnx, by rw [HT.out, hst.out]⟩
          case measure => simp [intOf]; omega
      · obtain ⟨n32, n9, n10, n13⟩ : ((s[k].toNat : Int) == 32) = false ∧ ((s[k].toNat : Int) == 9) = false ∧ ((s[k].toNat : Int) == 10) = false ∧ ((s[k].toNat : Int) == 13) = false := by
          have q := mt (isBlank_iff s[k]).2 hbl; simp only [beq_eq_false_iff_ne]; omega
        have hbl' : isBlank s[k] = false := by simpa using hbl
        have HBL := Lib.hid hbl'; clear hbl hbl'
        by_cases hsg : isSign s[k] = true
        · have hc := (isSign_iff _).1 hsg
          have HSG := Lib.hid hsg; clear hsg
          have hex := extract_take s k 1
          have HEX := Lib.hid hex; clear hex
          by_cases hj : s[k] = 45 ∧ b = true
          · obtain ⟨hj1, rfl⟩ := hj
            have hc45 := (byte_eq s[k] 45).1 hj1
            have hc45 : (s[k].toNat : Int) = 45 := hc45
            have HF := Lib.hid (fail_sign hlt hj1); clear hj1 hc
            go_wp2_with fail
            go_ret2
            exact tok_fail hnx HT.out HF.out
          · have HJ := Lib.hid (step_sign (b := b) hlt HSG.out hj)
            by_cases h45 : s[k] = 45
            · have hb0 : b = false := by simpa [h45] using hj
              subst hb0
              have hc45 := (byte_eq s[k] 45).1 h45
              have hc45 : (s[k].toNat : Int) = 45 := hc45
              clear hc hj h45
              go_wp2_with (first | (at_builtin; refine wpList_append_own _ rfl _ _ 58 rfl B 62 i0 (.agg #[.int .u8 0, .string ⟨#[]⟩]) 2 24 Tryz.underlying58 hi hz0 hz1 hz2 rfl (by decide) _ _ _ rfl (hown.alloc _) ⟨wr.heap.size, 0, none⟩ 1 1 [_, _] rfl rfl (cells_lit2 _ _ _ _) (by intro u hu; simp at hu; rcases hu with rfl | rfl <;> rfl) (by unfold maxLen; omega) (by omega) (by simp; omega) ?_; intro v1 w1 hown1 hg1 _))
              go_roundw
              case rel =>
                go_light
                have h45 : s[k] = 45 := (byte_eq s[k] 45).2 hc45
                have := tok_more (t := (s[k], [s[k]])) (b1 := false) (by omega) (by omega) hT hown hnx hBr HT.out HJ.out (by rw [HEX.out, drop_at s k hlt, h45]; rfl) hown1 hg1
                simpa using this
              case measure => simp [intOf]; omega
            · have h45' := mt (byte_eq s[k] 45).2 h45
              have h45' : ¬ (s[k].toNat : Int) = 45 := h45'
              clear hj h45
              have hc : (s[k].toNat : Int) = 40 ∨ (s[k].toNat : Int) = 41 ∨ (s[k].toNat : Int) = 44 := by omega
              clear h45'
              rcases hc with hc | hc | hc
              all_goals
                go_wp2_with (first | (at_builtin; refine wpList_append_own _ rfl _ _ 58 rfl B 62 i0 (.agg #[.int .u8 0, .string ⟨#[]⟩]) 2 24 Tryz.underlying58 hi hz0 hz1 hz2 rfl (by decide) _ _ _ rfl (hown.alloc _) ⟨wr.heap.size, 0, none⟩ 1 1 [_, _] rfl rfl (cells_lit2 _ _ _ _) (by intro u hu; simp at hu; rcases hu with rfl | rfl <;> rfl) (by unfold maxLen; omega) (by omega) (by simp; omega) ?_; intro v1 w1 hown1 hg1 _))
                go_roundw
                case rel =>
                  go_light
                  have := tok_more (t := (s[k], [s[k]])) (b1 := false) (by omega) (by omega) hT hown hnx hBr HT.out HJ.out (by rw [HEX.out, drop_at s k hlt]; simp [tcell, hc]) hown1 hg1
                  simpa using this
                case measure => simp [intOf]; omega
        · obtain ⟨n40, n41, n44, n45⟩ : ((s[k].toNat : Int) == 40) = false ∧ ((s[k].toNat : Int) == 41) = false ∧ ((s[k].toNat : Int) == 44) = false ∧ ((s[k].toNat : Int) == 45) = false := by
            have q := mt (isSign_iff s[k]).2 hsg; simp only [beq_eq_false_iff_ne]; omega
          have hsg' : isSign s[k] = false := by simpa using hsg
          have HSG := Lib.hid hsg'; clear hsg hsg'
          by_cases hl : isLet s[k] = true
          · have HL := Lib.hid hl; clear hl
            obtain ⟨n, hn⟩ : ∃ n, lets (s.data.toList.drop k) = n := ⟨_, rfl⟩
            have hn0 : 1 ≤ n := by rw [← hn, drop_at s k hlt]; simp [lets, HL.out]
            have hnl : n ≤ s.size - k := by have := lets_le (s.data.toList.drop k); rw [hn] at this; simpa using this
            have HN := Lib.hid hn; clear hn
            have HEX := Lib.hid (extract_take s k n)
            have hb2 : b = true ∨ b = false := by cases b <;> simp
            have HF : RowKit.Hid (b = true → toks b (s.data.toList.drop k) = none) := fun h => by rw [h]; exact fail_word hlt HL.out
            have HST : RowKit.Hid (b = false → toks b (s.data.toList.drop k) = (toks true (s.data.toList.drop (k + n))).map ((97, (s.data.toList.drop k).take n) :: ·)) := fun h => by rw [h]; exact step_word hlt HL.out n HN.out
            go_wp2_with (go_at_call 38; refine (isLetter_yes _ _ HL.out).mono ?_; rintro e w' ⟨rfl, rfl⟩)
            go_loop [7] (fun t => ∃ m : Nat, m ≤ n ∧ n = m + lets (s.data.toList.drop (k + m)) ∧ t = .int .i64 m) (fun t => n - (intOf t).toNat)
            case atStart => exact ⟨0, by omega, by simpa using HN.out.symm, rfl⟩
            case round =>
              obtain ⟨m, hm, hnm, rfl⟩ := hrel
              have HNM := Lib.hid hnm; clear hnm
              by_cases hgo : k + m < s.size ∧ (∀ h : k + m < s.size, isLet s[k + m] = true)
              · obtain ⟨hlt2, hl2⟩ := hgo
                have HL2 := Lib.hid (hl2 hlt2); clear hl2
                have hmn : m + 1 ≤ n := by have := HNM.out; rw [drop_at s (k + m) hlt2] at this; simp only [lets, HL2.out, if_true] at this; omega
                go_wp2_with (go_at_call 38; refine (isLetter_yes _ _ HL2.out).mono ?_; rintro e w' ⟨rfl, rfl⟩)
                go_round
                case rel => go_light; exact ⟨m + 1, hmn, by have := HNM.out; rw [drop_at s (k + m) hlt2] at this; simp only [lets, HL2.out, if_true] at this; rw [← Nat.add_assoc]; omega, by go_num⟩
                case measure => simp [intOf]; omega
              · have hmn : m = n := by
                  have h1 := HNM.out
                  by_cases hlt2 : k + m < s.size
                  · have hl2 : isLet s[k + m] = false := by
                      rw [Bool.eq_false_iff]; intro h; exact hgo ⟨hlt2, fun _ => h⟩
                    rw [drop_at s (k + m) hlt2] at h1; simp only [lets, hl2, Bool.false_eq_true, if_false] at h1; omega
                  · rw [drop_end s (k + m) (by omega)] at h1; simp only [lets] at h1; omega
                subst hmn
                have hgo2 : ¬ k + m < s.size ∨ ∃ h : k + m < s.size, isLet s[k + m] = false := by
                  by_cases hlt2 : k + m < s.size
                  · refine .inr ⟨hlt2, ?_⟩
                    rw [Bool.eq_false_iff]; intro h; exact hgo ⟨hlt2, fun _ => h⟩
                  · exact .inl hlt2
                clear hgo
                have hn0b : ((m : Int) == 0) = false := by rw [beq_eq_false_iff_ne]; omega
                rcases hb2 with rfl | rfl
                all_goals
                  rcases hgo2 with hlt2 | ⟨hlt2, hl2⟩
                  all_goals
                    try (have HL2 := Lib.hid hl2; clear hl2)
                    go_wp2_with (first | (go_at_call 38; refine (isLetter_no _ _ HL2.out).mono ?_; rintro e w' ⟨rfl, rfl⟩) | (at_builtin; refine wpList_append_own _ rfl _ _ 58 rfl B 62 i0 (.agg #[.int .u8 0, .string ⟨#[]⟩]) 2 24 Tryz.underlying58 hi hz0 hz1 hz2 rfl (by decide) _ _ _ rfl (hown.alloc _) ⟨wr.heap.size, 0, none⟩ 1 1 [_, _] rfl rfl (cells_lit2 _ _ _ _) (by intro u hu; simp at hu; rcases hu with rfl | rfl <;> rfl) (by unfold maxLen; omega) (by omega) (by simp; omega) ?_; intro v1 w1 hown1 hg1 _))
                · go_ret2
                  exact tok_fail2 hnx hBr hown hg1 HT.out (HF.out (by simp))
                · go_ret2
                  exact tok_fail2 hnx hBr hown hg1 HT.out (HF.out (by simp))
                all_goals
                  go_roundw
                  case rel =>
                    go_light
                    have := tok_more (t := (97, (s.data.toList.drop k).take m)) (b1 := true) (by omega) (by omega) hT hown hnx hBr HT.out (HST.out (by simp)) (by rw [HEX.out]; rfl) hown1 hg1
                    simpa using this
                  case measure => simp [intOf]; omega
          · have hl' : isLet s[k] = false := by simpa using hl
            have HL := Lib.hid hl'; clear hl hl'
            obtain ⟨n, hn⟩ : ∃ n, decm (s.data.toList.drop k) = n := ⟨_, rfl⟩
            have hnl : n ≤ s.size - k := by have := decm_le (s.data.toList.drop k); rw [hn] at this; simpa using this
            have HN := Lib.hid hn; clear hn
            have hex := extract_take s k n
            have HEX := Lib.hid hex; clear hex
            by_cases hz : n = 0 ∨ b = true
            · have HF := Lib.hid (fail_num (b := b) hlt HBL.out HSG.out HL.out (by rw [HN.out]; exact hz))
              have hq : ((n : Int) == 0) = true ∨ ((n : Int) == 0) = false ∧ b = true := by
                by_cases h0 : n = 0
                · simp [h0]
                · right; simp [h0] at hz ⊢; exact hz
              clear hz
              rcases hq with hq | ⟨hq, rfl⟩
              all_goals
                go_wp2_with (first | (go_at_call 38; refine (isLetter_no _ _ HL.out).mono ?_; rintro e w' ⟨rfl, rfl⟩) | (go_at_call 39; refine (decimal_d s _ (by omega) k n HN.out).mono ?_; rintro e w' ⟨rfl, rfl⟩) | (at_builtin; refine wpList_append_own _ rfl _ _ 58 rfl B 62 i0 (.agg #[.int .u8 0, .string ⟨#[]⟩]) 2 24 Tryz.underlying58 hi hz0 hz1 hz2 rfl (by decide) _ _ _ rfl (hown.alloc _) ⟨wr.heap.size, 0, none⟩ 1 1 [_, _] rfl rfl (cells_lit2 _ _ _ _) (by intro u hu; simp at hu; rcases hu with rfl | rfl <;> rfl) (by unfold maxLen; omega) (by omega) (by simp; omega) ?_; intro v1 w1 hown1 hg1 _))
                go_ret2
                exact tok_fail2 hnx hBr hown hg1 HT.out HF.out
            · obtain ⟨h0, hb0⟩ : n ≠ 0 ∧ b = false := by simpa using hz
              subst hb0
              clear hz
              have HST := Lib.hid (step_num hlt HBL.out HSG.out HL.out n HN.out h0)
              go_wp2_with (first | (go_at_call 38; refine (isLetter_no _ _ HL.out).mono ?_; rintro e w' ⟨rfl, rfl⟩) | (go_at_call 39; refine (decimal_d s _ (by omega) k n HN.out).mono ?_; rintro e w' ⟨rfl, rfl⟩) | (at_builtin; refine wpList_append_own _ rfl _ _ 58 rfl B 62 i0 (.agg #[.int .u8 0, .string ⟨#[]⟩]) 2 24 Tryz.underlying58 hi hz0 hz1 hz2 rfl (by decide) _ _ _ rfl (hown.alloc _) ⟨wr.heap.size, 0, none⟩ 1 1 [.int .u8 49, .string (s.extract k (k + n))] rfl rfl (cells_lit2 _ _ _ _) (by intro u hu; simp at hu; rcases hu with rfl | rfl <;> rfl) (by unfold maxLen; omega) (by omega) (by simp; omega) ?_; intro v1 w1 hown1 hg1 _))
              go_roundw
              case rel =>
                go_light
                have := tok_more (t := (49, (s.data.toList.drop k).take n)) (b1 := true) (Nat.pos_of_ne_zero h0) (by omega) hT hown hnx hBr HT.out HST.out (by rw [HEX.out]; rfl) hown1 hg1
                simpa using this
              case measure => simp [intOf]; omega
    · go_wp2_with fail
      go_ret2
      refine .inl ⟨_, T, rfl, ?_, by omega, hown, hnx⟩
      rw [HT.out, drop_end s k (by omega)]; simp [toks_nil]
end Go.Proofs.YtblpcpkkjbkakaaGreatDoor
