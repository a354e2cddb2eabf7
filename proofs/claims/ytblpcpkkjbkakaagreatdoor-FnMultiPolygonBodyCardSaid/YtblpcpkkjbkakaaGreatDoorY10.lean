/- Lemmas towards the seat's laws: 1 texts joined. -/
import Derived.Test.YtblpcpkkjbkakaaGreatDoorY09
/- Small laws of the scanner's memory, and what it reads of the package-level variables. -/
namespace Go.Proofs.YtblpcpkkjbkakaaGreatDoor
open Go Go.RowKit
set_option linter.unusedVariables false
set_option linter.unusedSimpArgs false

theorem fullRune_none (a : Option Addr) (c : Nat) (w : World) : Calls Tryz.prog 113 #[.slice a 0 c] w fun e w' => e = .returned (.bool false) ∧ w' = w := by
  go_enter Tryz.func113, Tryz.ntmps113
  go_wp2_with fail
  go_ret
  exact ⟨rfl, rfl⟩

theorem fullRune_plain (b o n c : Nat) (x : Int) (w : World) (h0 : w.cell? ⟨b, o, none⟩ = some (.int .u8 x)) (hx : 0 ≤ x) (hx2 : x < 128) (hn : 0 < n) (hn2 : n ≤ c) (hc : c ≤ 100000)
    (hU : w.cell? ⟨8, x.toNat, none⟩ = some (.int .u8 240)) : Calls Tryz.prog 113 #[.slice (some ⟨b, o, none⟩) n c] w fun e w' => e = .returned (.bool true) ∧ w' = w := by
  go_enter Tryz.func113, Tryz.ntmps113
  go_wp2_with fail
  go_ret
  exact ⟨rfl, rfl⟩

/-- What the scanner reads of the package-level variables: io.EOF; utf8's first row at a plain byte. -/
structure Gl (w : World) : Prop where
  eof : ∃ ea, w.cell? ⟨4, 0, none⟩ = some (.iface 215 (.pointer (some ea)))
  first : ∀ x, x < 128 → w.cell? ⟨8, x, none⟩ = some (.int .u8 240)
theorem Gl.keep {B : Nat} {w w' : World} (h : Gl w) (hb : Below B w w') (hB : 9 ≤ B) : Gl w' :=
  ⟨by obtain ⟨ea, he⟩ := h.eof; exact ⟨ea, (hb.cell (p := ⟨4, 0, none⟩) (by simp; omega)).trans he⟩, fun x hx => (hb.cell (p := ⟨8, x, none⟩) (by simp; omega)).trans (h.first x hx)⟩

set_option maxRecDepth 100000 in
theorem slice88 (b l h : Nat) (h1 : l ≤ h) (h2 : h ≤ 1025) (h3 : l < 1025) (W : World) :
    (Instr.sliceAt 88 (.pointer (some ⟨b, 1, none⟩)) (some (.int .i64 l)) (some (.int .i64 h)) none).run Tryz.prog W = .ok (.slice (some ⟨b, 1 + l, none⟩) (h - l) (1025 - l)) W := by
  have ht : Tryz.prog.underlying 88 = some (.array (Tryz.prog.arrayLen 88) (Tryz.prog.elem 88)) := Tryz.underlying88
  have he : Tryz.prog.elem 88 = 5 := by kernel_rfl
  have hl : Tryz.prog.arrayLen 88 = 1025 := by kernel_rfl
  rw [run_sliceAt_array_lh (P := Tryz.prog) W 88 ⟨b, 1, none⟩ ht .i64 .i64 l h (by omega) (by omega) (by rw [hl]; omega), he, size5]
  simp [slicedAt, hl, Addr.add]
  rw [if_neg (by omega)]
  split
  · subst l; rfl
  · rfl

set_option maxRecDepth 100000 in
theorem slice88l (b l : Nat) (h3 : l < 1025) (W : World) :
    (Instr.sliceAt 88 (.pointer (some ⟨b, 1, none⟩)) (some (.int .i64 l)) none none).run Tryz.prog W = .ok (.slice (some ⟨b, 1 + l, none⟩) (1025 - l) (1025 - l)) W := by
  have ht : Tryz.prog.underlying 88 = some (.array (Tryz.prog.arrayLen 88) (Tryz.prog.elem 88)) := Tryz.underlying88
  have he : Tryz.prog.elem 88 = 5 := by kernel_rfl
  have hl : Tryz.prog.arrayLen 88 = 1025 := by kernel_rfl
  rw [run_sliceAt_array_l (P := Tryz.prog) W 88 ⟨b, 1, none⟩ ht .i64 l (by omega) (by rw [hl]; omega), he, size5]
  simp [slicedAt, hl, Addr.add]
  rw [if_neg (by omega)]
  split
  · subst l; rfl
  · rfl

/-- The scanner's counters, read off the state. -/
theorem cells {s : ByteArray} {rb B b : Nat} {R : Nat → Option Value} {pos en off la : Nat} {tb : List UInt8} {w : World} (hI : IsB B b R tb w) (hk : Ok s rb R pos en off la) :
    w.cell? ⟨b, 0, none⟩ = some (.iface 130 (.pointer (some ⟨rb, 0, none⟩))) ∧ w.cell? ⟨b, 1026, none⟩ = some (.int .i64 pos) ∧ w.cell? ⟨b, 1027, none⟩ = some (.int .i64 en) ∧ w.cell? ⟨b, 1028, none⟩ = some (.int .i64 off) ∧ w.cell? ⟨b, 1032, none⟩ = some (.int .i64 la) :=
  ⟨at_cell hI hk.src (by omega), at_cell hI hk.cpos (by omega), at_cell hI hk.cen (by omega), at_cell hI hk.coff (by omega), at_cell hI hk.cla (by omega)⟩


theorem seg_length (s : ByteArray) (i j : Nat) (h : j ≤ s.size) : (seg s i j).length = j - i := by
  unfold seg; rw [List.length_take, List.length_drop, ← Lib.size_eq]; omega
theorem seg_get (s : ByteArray) (i j k : Nat) (h : j ≤ s.size) (hk : k < (seg s i j).length) : ∃ hh : i + k < s.size, (seg s i j)[k] = s[i + k] := by
  have hl := seg_length s i j h
  have hh : i + k < s.size := by omega
  refine ⟨hh, ?_⟩
  have e : (seg s i j)[k]? = some s[i + k] := by
    unfold seg
    rw [List.getElem?_take, if_pos (by omega), List.getElem?_drop]
    exact List.getElem?_eq_getElem (by rw [← Lib.size_eq]; exact hh)
  exact Option.some.inj ((List.getElem?_eq_getElem hk).symm.trans e)
theorem seg_self (s : ByteArray) (i : Nat) : seg s i i = [] := by unfold seg; simp
theorem seg_append (s : ByteArray) (i j k : Nat) (h1 : i ≤ j) (h2 : j ≤ k) : seg s i j ++ seg s j k = seg s i k := by
  unfold seg
  rw [show k - i = (j - i) + (k - j) by omega, List.take_add, List.drop_drop, show i + (j - i) = j by omega]

/-- Stores in a row, over the block's function. -/
def updL (R : Nat → Option Value) : Nat → List Value → Nat → Option Value
  | _, [] => R
  | o, v :: vs => updL (upd R o v) (o + 1) vs
theorem updL_out (vs : List Value) : ∀ (R : Nat → Option Value) (o k : Nat), (k < o ∨ o + vs.length ≤ k) → updL R o vs k = R k := by
  induction vs with
  | nil => intro R o k _; rfl
  | cons v vs ih =>
    intro R o k h
    simp only [List.length_cons] at h
    simp only [updL]
    rw [ih _ _ _ (by omega), upd_ne _ _ _ _ (by omega)]
theorem updL_in (vs : List Value) : ∀ (R : Nat → Option Value) (o j : Nat) (v : Value), vs[j]? = some v → updL R o vs (o + j) = some v := by
  induction vs with
  | nil => intro R o j v h; simp at h
  | cons u vs ih =>
    intro R o j v h
    simp only [updL]
    cases j with
    | zero =>
      rw [updL_out _ _ _ _ (by omega)]
      simp at h
      subst h
      exact upd_at _ _ _
    | succ j =>
      rw [show o + (j + 1) = o + 1 + j by omega]
      exact ih _ _ _ _ (by simpa using h)
theorem IsB.setL {B b : Nat} {tb : List UInt8} (vs : List Value) : ∀ (R : Nat → Option Value) (o : Nat) (w : World), IsB B b R tb w → o + vs.length ≤ 1033 → (∀ j, j < vs.length → (R (o + j)).isSome = true) → IsB B b (updL R o vs) tb (w.setCells b o vs) := by
  induction vs with
  | nil => intro R o w h _ _; exact h
  | cons v vs ih =>
    intro R o w h hl hs
    simp only [List.length_cons] at hl hs
    simp only [updL, World.setCells]
    refine ih _ _ _ (h.set o (by omega) (hs 0 (by omega)) v) (by omega) (fun j hj => ?_)
    by_cases he : o + 1 + j = o
    · omega
    · rw [upd_ne _ _ _ _ he, show o + 1 + j = o + (j + 1) by omega]
      exact hs _ (by omega)

theorem IsB.other {B b rb : Nat} {R : Nat → Option Value} {tb : List UInt8} {w : World} (h : IsB B b R tb w) {c : Array Value} {fz : Nat × Nat} (hrb : w.heap[rb]? = some (.cells c 154 fz)) (hne : rb ≠ b) (i : Nat) (v : Value) : IsB B b R tb (w.setCell ⟨rb, i, none⟩ v) := by
  obtain ⟨hB, v0, lr, hbk, hown, hnb⟩ := h
  refine ⟨hB, v0, lr, hbk.of_heap (Below.heap_setCell _ _ _ _ (fun e => hne e.symm)), ⟨hown.1, ?_⟩, hnb⟩
  rcases hown.2 with hn | ⟨g, cap, cur, hv, hBg, hg, rest⟩
  · exact .inl hn
  · refine .inr ⟨g, cap, cur, hv, hBg, ?_, rest⟩
    rw [Below.heap_setCell _ _ _ _ (fun e => ?_)]
    · exact hg
    · have e : g = rb := e
      rw [e, hrb] at hg
      simp at hg

theorem setCells_heap (b : Nat) (vs : List Value) : ∀ (o : Nat) (w : World) (k : Nat), k ≠ b → (w.setCells b o vs).heap[k]? = w.heap[k]? := by
  induction vs with
  | nil => intro o w k _; rfl
  | cons v vs ih => intro o w k hk; simp only [World.setCells]; rw [ih _ _ _ hk, Below.heap_setCell _ _ _ _ (fun e => hk e)]
theorem Fr.setL {B b rb : Nat} (vs : List Value) : ∀ (o : Nat) {w w1 : World}, Fr B b rb w w1 → B ≤ b → Fr B b rb w (w1.setCells b o vs) := by
  induction vs with
  | nil => intro o w w1 h _; exact h
  | cons v vs ih => intro o w w1 h hB; simp only [World.setCells]; exact ih _ (h.set hB o v) hB

theorem srow_length (s : ByteArray) (i n : Nat) (h : i + n ≤ s.size) : (srow s i n).length = n := by
  unfold srow; rw [List.length_map, List.length_take, ← Lib.size_eq, size_ext]; omega
theorem srow_get (s : ByteArray) (i n j : Nat) (h : i + n ≤ s.size) (hj : j < n) : ∃ hh : i + j < s.size, (srow s i n)[j]? = some (.int .u8 (s[i + j].toNat)) := by
  refine ⟨by omega, ?_⟩
  unfold srow
  rw [List.getElem?_map, List.getElem?_take, if_pos hj]
  have : (s.extract i s.size).data.toList[j]? = some s[i + j] := by
    rw [extract_drop, List.getElem?_drop]
    exact List.getElem?_eq_getElem (by rw [← Lib.size_eq]; omega)
  rw [this]; rfl

end Go.Proofs.YtblpcpkkjbkakaaGreatDoor
