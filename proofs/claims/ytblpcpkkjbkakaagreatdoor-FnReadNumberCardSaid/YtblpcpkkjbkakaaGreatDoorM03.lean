/- Lemmas towards the seat's laws: 5 texts joined. -/
import Derived.Test.YtblpcpkkjbkakaaGreatDoorM01
import Derived.Test.YtblpcpkkjbkakaaGreatDoorM02
import Derived.LaidEql
/- The scanner's token buffer: Reset, and Write of bytes that lie in the scanner's own block. -/
namespace Go.Proofs.YtblpcpkkjbkakaaGreatDoor
open Go Go.RowKit
set_option linter.unusedVariables false
set_option linter.unusedSimpArgs false

/-- Only the parser's own block may have turned, or rows of bytes; the frame of a call on the token buffer. -/
def BufPost (B b : Nat) (R : Nat → Option Value) (tb : List UInt8) (v : Value) (w : World) (e : Ending) (w' : World) : Prop :=
  e = .returned v ∧ IsB B b R tb w' ∧ Below B w w' ∧ Lib.OthersKept 5 (some b) w w'

set_option maxRecDepth 100000 in
set_option maxHeartbeats 2000000 in
theorem reset_any (B b : Nat) (R : Nat → Option Value) (tb : List UInt8) (w : World) (h : IsB B b R tb w) :
    Calls Tryz.prog 87 #[.pointer (some ⟨b, 1033, none⟩)] w (BufPost B b R [] (.tuple #[]) w) := by
  obtain ⟨hB, lr, hc⟩ := h.cases
  have HH := Lib.hid h; clear h
  have hfr : ∀ v, Below B w (((w.setCell ⟨b, 1033, none⟩ v).setCell ⟨b, 1034, none⟩ (.int .i64 0)).setCell ⟨b, 1035, none⟩ (.int .i8 0)) ∧ Lib.OthersKept 5 (some b) w (((w.setCell ⟨b, 1033, none⟩ v).setCell ⟨b, 1034, none⟩ (.int .i64 0)).setCell ⟨b, 1035, none⟩ (.int .i8 0)) := fun v =>
    ⟨(((Below.refl B w).setCell (p := ⟨b, 1033, none⟩) hB _).setCell (p := ⟨b, 1034, none⟩) hB _).setCell (p := ⟨b, 1035, none⟩) hB _, (((Lib.OthersKept.refl _ _ w).setCell ⟨b, 1033, none⟩ rfl _).setCell ⟨b, 1034, none⟩ rfl _).setCell ⟨b, 1035, none⟩ rfl _⟩
  rcases hc with ⟨h0, hbk⟩ | ⟨g, cap, cur, hbk, hBg, hg, hnc, hcm, hcs, -, hgb⟩
  · have c0 : w.cell? ⟨b, 1033, none⟩ = some (.slice none 0 0) := hbk.c0
    have c1 : w.cell? ⟨b, 1034, none⟩ = some (.int .i64 0) := hbk.c1
    have c2 : w.cell? ⟨b, 1035, none⟩ = some (.int .i8 lr) := hbk.c2
    have f0 := hbk.f 1033
    have f1 := hbk.f 1034
    have f2 := hbk.f 1035
    have HB := Lib.hid hbk; clear hbk
    go_enter Tryz.func87, Tryz.ntmps87
    go_wp2_with fail
    go_end0
    exact ⟨rfl, ⟨hB, _, 0, ((HB.out.set0 _).set1 _).set2 _, World.ownsRow_nil _ _ _ _, by simp [Value.ownBlock]⟩, hfr _⟩
  · have c0 : w.cell? ⟨b, 1033, none⟩ = some (.slice (some ⟨g, 0, none⟩) (Lib.byteCells tb).length cap) := hbk.c0
    have c1 : w.cell? ⟨b, 1034, none⟩ = some (.int .i64 0) := hbk.c1
    have c2 : w.cell? ⟨b, 1035, none⟩ = some (.int .i8 lr) := hbk.c2
    have f0 := hbk.f 1033
    have f1 := hbk.f 1034
    have f2 := hbk.f 1035
    have HB := Lib.hid hbk; clear hbk
    have hgw : ∀ v, (((w.setCell ⟨b, 1033, none⟩ v).setCell ⟨b, 1034, none⟩ (.int .i64 0)).setCell ⟨b, 1035, none⟩ (.int .i8 0)).heap[g]? = some (.cells cur 5 (0, 0)) := fun v => by
      repeat rw [Below.heap_setCell _ _ _ _ hgb]
      exact hg
    have HG := Lib.hid hgw; clear hgw hg
    go_enter Tryz.func87, Tryz.ntmps87
    go_wp2_with fail
    go_end0
    refine ⟨rfl, ?_, hfr _⟩
    have := LibA.isBuffer_mk (T := 104) (R := R) (b := b) (o := 1033) (n := 0) (cap := cap) (lr := 0) hB (((HB.out.set0 (.slice (some ⟨g, 0, none⟩) 0 cap)).set1 (.int .i64 0)).set2 (.int .i8 0)) hBg (HG.out _) (Nat.zero_le _) hcm hcs hgb
    simpa [IsB, Lib.byteCells] using this

theorem byteCells_get (l : List UInt8) (j : Nat) (v : Value) (h : (Lib.byteCells l)[j]? = some v) : ∃ hj : j < l.length, v = .int .u8 l[j].toNat := by
  unfold Lib.byteCells at h
  rw [List.getElem?_map] at h
  cases hl : l[j]? with
  | none => rw [hl] at h; simp at h
  | some x =>
    obtain ⟨hj, rfl⟩ := List.getElem?_eq_some_iff.1 hl
    rw [hl] at h
    simp at h
    exact ⟨hj, h.symm⟩

theorem info5' : (Tryz.prog.info? 5).map (·.size) = some 1 := by kernel_rfl

set_option maxHeartbeats 6400000 in
set_option maxRecDepth 100000 in
/-- Write, of bytes that lie in the scanner's own block ahead of the buffer. -/
theorem write_own (B b : Nat) (R : Nat → Option Value) (tb cs : List UInt8) (k n c : Nat) (w : World) (h : IsB B b R tb w) (hBw : B ≤ w.heap.size)
    (hn : cs.length = n) (hsrc : ∀ j (hj : j < cs.length), R (k + j) = some (.int .u8 cs[j].toNat)) (hk : k + n ≤ 1026) (hlim : tb.length ≤ 100000) :
    Calls Tryz.prog 97 #[.pointer (some ⟨b, 1033, none⟩), .slice (some ⟨b, k, none⟩) n c] w (BufPost B b R (tb ++ cs) (.tuple #[.int .i64 n, .nilIface]) w) := by
  have hcl : (Lib.byteCells cs).length = n := by rw [Lib.byteCells_length]; exact hn
  have htl : (Lib.byteCells tb).length = tb.length := Lib.byteCells_length _
  have hadd : ∀ j, (⟨b, k, none⟩ : Addr).add j = ⟨b, k + j, none⟩ := fun j => by unfold Addr.add; split <;> simp_all
  have hrd : ∀ (W : World) (bs : List Value), LibA.IsBuffer 104 R 5 B b 1033 bs W → ∀ j v, (Lib.byteCells cs)[j]? = some v → W.cell? ((⟨b, k, none⟩ : Addr).add j) = some v := by
    intro W bs hI j v hj
    obtain ⟨hj2, rfl⟩ := byteCells_get cs j v hj
    rw [hadd, hI.rest (k + j) (by omega)]
    exact hsrc j hj2
  have e1 : Lib.byteCells (tb ++ cs) = Lib.byteCells tb ++ Lib.byteCells cs := by unfold Lib.byteCells; rw [List.map_append]
  obtain ⟨hB, v0, lr, hbk, -, -⟩ := id h
  have c2 : w.cell? ⟨b, 1035, none⟩ = some (.int .i8 lr) := hbk.c2
  have f2 : w.frozen? ⟨b, 1035, none⟩ = false := hbk.f 1035
  have h' := h.setLast 0
  have hbel0 : Below B w (w.setCell ⟨b, 1035, none⟩ (.int .i8 0)) := (Below.refl B w).setCell (p := ⟨b, 1035, none⟩) hB _
  have hk0 : Lib.OthersKept 5 (some b) w (w.setCell ⟨b, 1035, none⟩ (.int .i8 0)) := (Lib.OthersKept.refl _ _ w).setCell ⟨b, 1035, none⟩ rfl _
  have hBw' : B ≤ (w.setCell ⟨b, 1035, none⟩ (.int .i8 0)).heap.size := by simpa [World.setCell] using hBw
  have h1 : ∀ v ∈ Lib.byteCells tb, v.oneCell' = true := Lib.byteCells_one _
  have h1c : ∀ v ∈ Lib.byteCells cs, v.oneCell' = true := Lib.byteCells_one _
  clear hbk v0
  have HSRC := Lib.hid hsrc; clear hsrc
  have HRD := Lib.hid hrd; clear hrd
  have HE := Lib.hid e1; clear e1
  have H1 := Lib.hid h1; clear h1
  have H1C := Lib.hid h1c; clear h1c
  have HADD := Lib.hid hadd; clear hadd
  -- WHAT FOLLOWS once there is room for n more
  have key : ∀ (W1 : World) (xs : List Value), xs.length = n → LibA.IsBuffer 104 R 5 B b 1033 (Lib.byteCells tb ++ xs) W1 → 0 < n →
      ∃ g cap W2, W1.cell? ⟨b, 1033, none⟩ = some (.slice (some ⟨g, 0, none⟩) (tb.length + n) cap) ∧ tb.length + n ≤ cap ∧ cap ≤ maxLen ∧
        (Builtin.copy_ #[85, 85] 3 #[.slice (some ⟨g, tb.length, none⟩) n (cap - tb.length), .slice (some ⟨b, k, none⟩) n c]).run Tryz.prog W1 = .ok (goInt n) W2 ∧
        IsB B b R (tb ++ cs) W2 ∧ Below B W1 W2 ∧ ∀ w0, Lib.OthersKept 5 (some b) w0 W1 → Lib.OthersKept 5 (some b) w0 W2 := by
    intro W1 xs hxl hI hn0
    obtain ⟨-, lr2, hc⟩ := hI.cases
    rcases hc with ⟨hnil, -⟩ | ⟨g, cap, cur, hbk2, hBg, hg, hnc, hcm, hcs, htk, hgb⟩
    · exact absurd (congrArg List.length hnil) (by rw [List.length_append, hxl, List.length_nil]; omega)
    · rw [List.length_append, hxl, htl] at hbk2 hnc htk
      have hcp := run_copy_row (P := Tryz.prog) W1 85 85 3 5 g tb.length n (cap - tb.length) ⟨b, k, none⟩ n c cur 5 (Lib.byteCells cs) Tryz.underlying85 info5' hg (by rw [hcl]; exact (Nat.min_self n).symm) (HRD.out W1 _ hI) (by rw [hcl]; omega) H1C.out
      rw [hcl] at hcp
      obtain ⟨r1, r2⟩ := LibA.written_end (news := Lib.byteCells cs) (l := tb.length) hB (by rw [hcl]; exact hbk2) hBg hg hcm hcs hgb (by rw [hcl]; exact hnc)
      have e1 : cur.toList.take tb.length = Lib.byteCells tb := by
        have h3 := congrArg (List.take tb.length) htk
        rwa [List.take_take, Nat.min_eq_left (Nat.le_add_right _ _), List.take_left' htl] at h3
      rw [hcl] at r1 r2
      refine ⟨g, cap, _, hbk2.c0, hnc, hcm, hcp, ?_, r2, fun w0 h0 => h0.setRow hg _⟩
      · have : LibA.IsBuffer 104 R 5 B b 1033 (Lib.byteCells (tb ++ cs)) (W1.setRow g (cur.toList.take tb.length ++ Lib.byteCells cs ++ cur.toList.drop (tb.length + n)).toArray) := by
          rw [HE.out]
          rw [e1] at r1 ⊢
          exact r1
        exact this
  have KEY := Lib.hid key; clear key
  by_cases hs0 : n = 0
  · subst hs0
    have hc0 : cs = [] := List.eq_nil_of_length_eq_zero hn
    subst hc0
    have hce : ∀ d dLen dCap W, (Builtin.copy_ #[85, 85] 3 #[.slice d dLen dCap, .slice (some ⟨b, k, none⟩) 0 c]).run Tryz.prog W = .ok (goInt 0) W := fun d dLen dCap W => run_copy_none W 85 85 3 5 d _ dLen dCap 0 c Tryz.underlying85 info5' (by simp)
    have HCE := Lib.hid hce; clear hce
    go_enter Tryz.func97, Tryz.ntmps97
    go_wp2_with fail
    refine (Tryz.Buffer_tryGrow_at 104 R B b 1033 0 (Lib.byteCells tb) _ h').mono ?_
    rintro e W1 (⟨rfl, xs, hxl, hI, hbel, hk, hg⟩ | ⟨rfl, rfl, hnr⟩)
    · have hce := HCE.out
      have hx0 : xs = [] := List.eq_nil_of_length_eq_zero hxl
      subst hx0
      rw [List.append_nil] at hI
      rw [htl]
      obtain ⟨-, lr2, hc⟩ := hI.cases
      rcases hc with ⟨hb0, hbk2⟩ | ⟨g, cap, cur, hbk2, -, -, hnc, hcm, -, -, -⟩
      · have d0 : W1.cell? ⟨b, 1033, none⟩ = some (.slice none 0 0) := hbk2.c0
        have htl0 : tb.length = 0 := by rw [← htl, hb0]; rfl
        rw [htl0]
        go_wp2_with fail
        go_ret2
        exact ⟨rfl, by simpa using hI, hbel0.trans hbel, hk0.trans hk⟩
      · have d0 : W1.cell? ⟨b, 1033, none⟩ = some (.slice (some ⟨g, 0, none⟩) (Lib.byteCells tb).length cap) := hbk2.c0
        rw [htl] at d0 hnc
        unfold maxLen at hcm
        clear hbk2
        go_wp2_with fail
        all_goals (go_ret2; exact ⟨rfl, by simpa using hI, hbel0.trans hbel, hk0.trans hk⟩)
    · obtain ⟨_, _, _, _, hlt⟩ := hnr
      omega
  · have hn0 : 0 < n := by omega
    have hlim2 : (Lib.byteCells tb).length + n ≤ 140737488355328 := by rw [htl]; omega
    go_enter Tryz.func97, Tryz.ntmps97
    go_wp2_with fail
    refine (Tryz.Buffer_tryGrow_at 104 R B b 1033 n (Lib.byteCells tb) _ h').mono ?_
    rintro e W1 (⟨rfl, xs, hxl, hI, hbel, hk3, hg⟩ | ⟨rfl, rfl, hnr⟩)
    · obtain ⟨g, cap, W2, d0, hnc, hcm, hcp, hI2, hb2, hk2⟩ := KEY.out W1 xs hxl hI hn0
      rw [htl]
      have HO := Lib.hid hk2; clear hk2
      have hne : ¬ cap = tb.length := by omega
      unfold maxLen at hcm
      go_wp2_with fail
      all_goals (go_ret2; exact ⟨rfl, hI2, (hbel0.trans hbel).trans hb2, HO.out _ (hk0.trans hk3)⟩)
    · go_wp2_with fail
      refine (Tryz.Buffer_grow_at 104 R B b 1033 n (Lib.byteCells tb) _ h' hnr hBw' H1.out hlim2).mono ?_
      rintro e W1 ⟨rfl, xs, hxl, hI, hbel, hk3, hg⟩
      obtain ⟨g, cap, W2, d0, hnc, hcm, hcp, hI2, hb2, hk2⟩ := KEY.out W1 xs hxl hI hn0
      rw [htl]
      have HO := Lib.hid hk2; clear hk2
      have hne : ¬ cap = tb.length := by omega
      unfold maxLen at hcm
      go_wp2_with fail
      all_goals (go_ret2; exact ⟨rfl, hI2, (hbel0.trans hbel).trans hb2, HO.out _ (hk0.trans hk3)⟩)

end Go.Proofs.YtblpcpkkjbkakaaGreatDoor
/- Small laws of the scanner's memory, and what it reads of the package-level variables. -/
namespace Go.Proofs.YtblpcpkkjbkakaaGreatDoor
open Go Go.RowKit
set_option linter.unusedVariables false
set_option linter.unusedSimpArgs false

theorem fullRune_none (a : Option Addr) (c : Nat) (w : World) : Calls Tryz.prog 113 #[.slice a 0 c] w fun e w' => e = .returned (.bool false) ∧ w' = w := by
  go_enter Tryz.func113, Tryz.ntmps113
  go_wp2_with fail
  go_ret
  exact ⟨rfl, rfl⟩

theorem fullRune_plain (b o n c : Nat) (x : Int) (w : World) (h0 : w.cell? ⟨b, o, none⟩ = some (.int .u8 x)) (hx : 0 ≤ x) (hx2 : x < 128) (hn : 0 < n) (hn2 : n ≤ c) (hc : c ≤ 100000)
    (hU : w.cell? ⟨8, x.toNat, none⟩ = some (.int .u8 240)) : Calls Tryz.prog 113 #[.slice (some ⟨b, o, none⟩) n c] w fun e w' => e = .returned (.bool true) ∧ w' = w := by
  go_enter Tryz.func113, Tryz.ntmps113
  go_wp2_with fail
  go_ret
  exact ⟨rfl, rfl⟩

/-- What the scanner reads of the package-level variables: io.EOF; utf8's first row at a plain byte. -/
structure Gl (w : World) : Prop where
  eof : ∃ ea, w.cell? ⟨4, 0, none⟩ = some (.iface 215 (.pointer (some ea)))
  first : ∀ x, x < 128 → w.cell? ⟨8, x, none⟩ = some (.int .u8 240)
theorem Gl.keep {B : Nat} {w w' : World} (h : Gl w) (hb : Below B w w') (hB : 9 ≤ B) : Gl w' :=
  ⟨by obtain ⟨ea, he⟩ := h.eof; exact ⟨ea, (hb.cell (p := ⟨4, 0, none⟩) (by simp; omega)).trans he⟩, fun x hx => (hb.cell (p := ⟨8, x, none⟩) (by simp; omega)).trans (h.first x hx)⟩

set_option maxRecDepth 100000 in
theorem slice88 (b l h : Nat) (h1 : l ≤ h) (h2 : h ≤ 1025) (h3 : l < 1025) (W : World) :
    (Instr.sliceAt 88 (.pointer (some ⟨b, 1, none⟩)) (some (.int .i64 l)) (some (.int .i64 h)) none).run Tryz.prog W = .ok (.slice (some ⟨b, 1 + l, none⟩) (h - l) (1025 - l)) W := by
  have ht : Tryz.prog.underlying 88 = some (.array (Tryz.prog.arrayLen 88) (Tryz.prog.elem 88)) := Tryz.underlying88
  have he : Tryz.prog.elem 88 = 5 := by kernel_rfl
  have hl : Tryz.prog.arrayLen 88 = 1025 := by kernel_rfl
  rw [run_sliceAt_array_lh (P := Tryz.prog) W 88 ⟨b, 1, none⟩ ht .i64 .i64 l h (by omega) (by omega) (by rw [hl]; omega), he, size5]
  simp [slicedAt, hl, Addr.add]
  rw [if_neg (by omega)]
  split
  · subst l; rfl
  · rfl

set_option maxRecDepth 100000 in
theorem slice88l (b l : Nat) (h3 : l < 1025) (W : World) :
    (Instr.sliceAt 88 (.pointer (some ⟨b, 1, none⟩)) (some (.int .i64 l)) none none).run Tryz.prog W = .ok (.slice (some ⟨b, 1 + l, none⟩) (1025 - l) (1025 - l)) W := by
  have ht : Tryz.prog.underlying 88 = some (.array (Tryz.prog.arrayLen 88) (Tryz.prog.elem 88)) := Tryz.underlying88
  have he : Tryz.prog.elem 88 = 5 := by kernel_rfl
  have hl : Tryz.prog.arrayLen 88 = 1025 := by kernel_rfl
  rw [run_sliceAt_array_l (P := Tryz.prog) W 88 ⟨b, 1, none⟩ ht .i64 l (by omega) (by rw [hl]; omega), he, size5]
  simp [slicedAt, hl, Addr.add]
  rw [if_neg (by omega)]
  split
  · subst l; rfl
  · rfl

/-- The scanner's counters, read off the state. -/
theorem cells {s : ByteArray} {rb B b : Nat} {R : Nat → Option Value} {pos en off la : Nat} {tb : List UInt8} {w : World} (hI : IsB B b R tb w) (hk : Ok s rb R pos en off la) :
    w.cell? ⟨b, 0, none⟩ = some (.iface 130 (.pointer (some ⟨rb, 0, none⟩))) ∧ w.cell? ⟨b, 1026, none⟩ = some (.int .i64 pos) ∧ w.cell? ⟨b, 1027, none⟩ = some (.int .i64 en) ∧ w.cell? ⟨b, 1028, none⟩ = some (.int .i64 off) ∧ w.cell? ⟨b, 1032, none⟩ = some (.int .i64 la) :=
  ⟨at_cell hI hk.src (by omega), at_cell hI hk.cpos (by omega), at_cell hI hk.cen (by omega), at_cell hI hk.coff (by omega), at_cell hI hk.cla (by omega)⟩


theorem seg_length (s : ByteArray) (i j : Nat) (h : j ≤ s.size) : (seg s i j).length = j - i := by
  unfold seg; rw [List.length_take, List.length_drop, ← Lib.size_eq]; omega
theorem seg_get (s : ByteArray) (i j k : Nat) (h : j ≤ s.size) (hk : k < (seg s i j).length) : ∃ hh : i + k < s.size, (seg s i j)[k] = s[i + k] := by
  have hl := seg_length s i j h
  have hh : i + k < s.size := by omega
  refine ⟨hh, ?_⟩
  have e : (seg s i j)[k]? = some s[i + k] := by
    unfold seg
    rw [List.getElem?_take, if_pos (by omega), List.getElem?_drop]
    exact List.getElem?_eq_getElem (by rw [← Lib.size_eq]; exact hh)
  exact Option.some.inj ((List.getElem?_eq_getElem hk).symm.trans e)
theorem seg_self (s : ByteArray) (i : Nat) : seg s i i = [] := by unfold seg; simp
theorem seg_append (s : ByteArray) (i j k : Nat) (h1 : i ≤ j) (h2 : j ≤ k) : seg s i j ++ seg s j k = seg s i k := by
  unfold seg
  rw [show k - i = (j - i) + (k - j) by omega, List.take_add, List.drop_drop, show i + (j - i) = j by omega]

/-- Stores in a row, over the block's function. -/
def updL (R : Nat → Option Value) : Nat → List Value → Nat → Option Value
  | _, [] => R
  | o, v :: vs => updL (upd R o v) (o + 1) vs
theorem updL_out (vs : List Value) : ∀ (R : Nat → Option Value) (o k : Nat), (k < o ∨ o + vs.length ≤ k) → updL R o vs k = R k := by
  induction vs with
  | nil => intro R o k _; rfl
  | cons v vs ih =>
    intro R o k h
    simp only [List.length_cons] at h
    simp only [updL]
    rw [ih _ _ _ (by omega), upd_ne _ _ _ _ (by omega)]
theorem updL_in (vs : List Value) : ∀ (R : Nat → Option Value) (o j : Nat) (v : Value), vs[j]? = some v → updL R o vs (o + j) = some v := by
  induction vs with
  | nil => intro R o j v h; simp at h
  | cons u vs ih =>
    intro R o j v h
    simp only [updL]
    cases j with
    | zero =>
      rw [updL_out _ _ _ _ (by omega)]
      simp at h
      subst h
      exact upd_at _ _ _
    | succ j =>
      rw [show o + (j + 1) = o + 1 + j by omega]
      exact ih _ _ _ _ (by simpa using h)
theorem IsB.setL {B b : Nat} {tb : List UInt8} (vs : List Value) : ∀ (R : Nat → Option Value) (o : Nat) (w : World), IsB B b R tb w → o + vs.length ≤ 1033 → (∀ j, j < vs.length → (R (o + j)).isSome = true) → IsB B b (updL R o vs) tb (w.setCells b o vs) := by
  induction vs with
  | nil => intro R o w h _ _; exact h
  | cons v vs ih =>
    intro R o w h hl hs
    simp only [List.length_cons] at hl hs
    simp only [updL, World.setCells]
    refine ih _ _ _ (h.set o (by omega) (hs 0 (by omega)) v) (by omega) (fun j hj => ?_)
    by_cases he : o + 1 + j = o
    · omega
    · rw [upd_ne _ _ _ _ he, show o + 1 + j = o + (j + 1) by omega]
      exact hs _ (by omega)

theorem IsB.other {B b rb : Nat} {R : Nat → Option Value} {tb : List UInt8} {w : World} (h : IsB B b R tb w) {c : Array Value} {fz : Nat × Nat} (hrb : w.heap[rb]? = some (.cells c 154 fz)) (hne : rb ≠ b) (i : Nat) (v : Value) : IsB B b R tb (w.setCell ⟨rb, i, none⟩ v) := by
  obtain ⟨hB, v0, lr, hbk, hown, hnb⟩ := h
  refine ⟨hB, v0, lr, hbk.of_heap (Below.heap_setCell _ _ _ _ (fun e => hne e.symm)), ⟨hown.1, ?_⟩, hnb⟩
  rcases hown.2 with hn | ⟨g, cap, cur, hv, hBg, hg, rest⟩
  · exact .inl hn
  · refine .inr ⟨g, cap, cur, hv, hBg, ?_, rest⟩
    rw [Below.heap_setCell _ _ _ _ (fun e => ?_)]
    · exact hg
    · have e : g = rb := e
      rw [e, hrb] at hg
      simp at hg

theorem setCells_heap (b : Nat) (vs : List Value) : ∀ (o : Nat) (w : World) (k : Nat), k ≠ b → (w.setCells b o vs).heap[k]? = w.heap[k]? := by
  induction vs with
  | nil => intro o w k _; rfl
  | cons v vs ih => intro o w k hk; simp only [World.setCells]; rw [ih _ _ _ hk, Below.heap_setCell _ _ _ _ (fun e => hk e)]
theorem Fr.setL {B b rb : Nat} (vs : List Value) : ∀ (o : Nat) {w w1 : World}, Fr B b rb w w1 → B ≤ b → Fr B b rb w (w1.setCells b o vs) := by
  induction vs with
  | nil => intro o w w1 h _; exact h
  | cons v vs ih => intro o w w1 h hB; simp only [World.setCells]; exact ih _ (h.set hB o v) hB

theorem srow_length (s : ByteArray) (i n : Nat) (h : i + n ≤ s.size) : (srow s i n).length = n := by
  unfold srow; rw [List.length_map, List.length_take, ← Lib.size_eq, size_ext]; omega
theorem srow_get (s : ByteArray) (i n j : Nat) (h : i + n ≤ s.size) (hj : j < n) : ∃ hh : i + j < s.size, (srow s i n)[j]? = some (.int .u8 (s[i + j].toNat)) := by
  refine ⟨by omega, ?_⟩
  unfold srow
  rw [List.getElem?_map, List.getElem?_take, if_pos hj]
  have : (s.extract i s.size).data.toList[j]? = some s[i + j] := by
    rw [extract_drop, List.getElem?_drop]
    exact List.getElem?_eq_getElem (by rw [← Lib.size_eq]; omega)
  rw [this]; rfl

end Go.Proofs.YtblpcpkkjbkakaaGreatDoor
/- One reading of the scanner: what the call leaves. -/
namespace Go.Proofs.YtblpcpkkjbkakaaGreatDoor
open Go Go.RowKit
set_option linter.unusedVariables false
set_option linter.unusedSimpArgs false

/-- The place between the token's saving and the refill. -/
def Mid (s : ByteArray) (rb B b en off : Nat) (R : Nat → Option Value) (T : Option Nat) (w wx : World) : Prop :=
  ∃ R' tb', IsB B b R' tb' wx ∧ (∀ k, k ≠ 1036 → R' k = R k) ∧ Tk s R' tb' 0 (off + en) T ∧ Fr B b rb w wx ∧ wx.heap[rb]? = w.heap[rb]?

/-- n bytes from place q of the text on stand at the buffer's head. -/
def Red (s : ByteArray) (rb B b q n : Nat) (tb : List UInt8) (R : Nat → Option Value) (w wx : World) : Prop :=
  ∃ R3, IsB B b R3 tb wx ∧ (∀ j, j < n → ∃ h : q + j < s.size, R3 (1 + j) = some (.int .u8 (s[q + j].toNat))) ∧ (∀ k, k = 0 ∨ 1 + n ≤ k → R3 k = R k) ∧ Fr B b rb w wx ∧
    ∃ p : Int, wx.heap[rb]? = some (.cells #[.string s, .int .i64 (q + n : Nat), .int .i64 p] 154 (0, 0))

def RedEnd (s : ByteArray) (q n : Nat) (v : Value) (wx : World) : Prop :=
  (q < s.size ∧ 0 < n ∧ n ≤ 1024 ∧ q + n ≤ s.size ∧ v = .nilIface) ∨ (q = s.size ∧ n = 0 ∧ ∃ ea, v = .iface 215 (.pointer (some ea)) ∧ wx.cell? ⟨4, 0, none⟩ = some v)

def RedPost (s : ByteArray) (rb B b q : Nat) (tb : List UInt8) (R : Nat → Option Value) (w : World) (e : Ending) (wx : World) : Prop :=
  ∃ n : Nat, ∃ v, e = .returned (.tuple #[.int .i64 n, v]) ∧ RedEnd s q n v wx ∧ Red s rb B b q n tb R w wx

theorem read_step (s : ByteArray) (rb B b q : Nat) (p : Int) (tb : List UInt8) (R : Nat → Option Value) (w : World) (hI : IsB B b R tb w) (hs : s.size ≤ 2000) (hq : q ≤ s.size)
    (hbuf : ∀ i, i < 1025 → (R (1 + i)).isSome = true) (hr : w.heap[rb]? = some (.cells #[.string s, .int .i64 (q : Nat), .int .i64 p] 154 (0, 0))) (hrb : B ≤ rb) (hne : rb ≠ b) (hG : Gl w) (hB9 : 9 ≤ B) :
    Calls Tryz.prog 204 #[.pointer (some ⟨rb, 0, none⟩), .slice (some ⟨b, 1, none⟩) 1024 1025] w (RedPost s rb B b q tb R w) := by
  have c0 : w.cell? ⟨rb, 0, none⟩ = some (.string s) := by rw [Lib.cell_of_heap hr]; rfl
  have c1 : w.cell? ⟨rb, 1, none⟩ = some (.int .i64 q) := by rw [Lib.cell_of_heap hr]; rfl
  have c2 : w.cell? ⟨rb, 2, none⟩ = some (.int .i64 p) := by rw [Lib.cell_of_heap hr]; rfl
  have hB := hI.1
  by_cases hm : q < s.size
  · obtain ⟨n, hn⟩ : ∃ n, n = Nat.min (s.size - q) 1024 := ⟨_, rfl⟩
    have hn1 : n ≤ 1024 := by rw [hn]; exact Nat.min_le_right _ _
    have hn2 : n ≤ s.size - q := by rw [hn]; exact Nat.min_le_left _ _
    have hn0 : 0 < n := by rw [hn]; show 0 < min _ _; omega
    refine (read_more s rb b 1 1024 1025 q n p w hs (Nat.le_refl _) hne c0 c1 c2 (Lib.frozen_of_heap hr 1) (Lib.frozen_of_heap hr 2) hm hn (fun j hj => ?_) (fun j _ => hI.notFrozen _)).mono ?_
    · rw [hI.rest (1 + j) (by omega)]; exact hbuf j (by omega)
    · rintro e wx ⟨rfl, d1, d2, d3, rfl⟩
      refine ⟨n, _, rfl, .inl ⟨hm, hn0, hn1, by omega, rfl⟩, updL R 1 (srow s q n), ?_, ?_, ?_, ?_, -1, ?_⟩
      · have h1 : IsB B b R tb ((w.drewN d1).setCell ⟨rb, 2, none⟩ (.int .i64 (-1))) := (show IsB B b R tb (w.drewN d1) from hI.drewN d1).other (rb := rb) hr hne 2 _
        have h2 : IsB B b (updL R 1 (srow s q n)) tb ((((w.drewN d1).setCell ⟨rb, 2, none⟩ (.int .i64 (-1))).drewN d2).setCells b 1 (srow s q n)) :=
          (show IsB B b R tb (((w.drewN d1).setCell ⟨rb, 2, none⟩ (.int .i64 (-1))).drewN d2) from h1.drewN d2).setL (srow s q n) R 1 _ (by rw [srow_length s q n (by omega)]; omega) (fun j hj => by rw [srow_length s q n (by omega)] at hj; exact hbuf j (by omega))
        refine (show IsB B b (updL R 1 (srow s q n)) tb (((((w.drewN d1).setCell ⟨rb, 2, none⟩ (.int .i64 (-1))).drewN d2).setCells b 1 (srow s q n)).drewN d3) from h2.drewN d3).other (rb := rb) (c := #[.string s, .int .i64 (q : Nat), .int .i64 (-1)]) (fz := (0, 0)) ?_ hne 1 _
        show ((((w.drewN d1).setCell ⟨rb, 2, none⟩ (.int .i64 (-1))).drewN d2).setCells b 1 (srow s q n)).heap[rb]? = _
        rw [setCells_heap _ _ _ _ _ hne]
        exact Lib.heap_setCell_same (i := 2) (w := w.drewN d1) hr _
      · intro j hj
        obtain ⟨hh, h1⟩ := srow_get s q n j (by omega) hj
        exact ⟨hh, updL_in _ R 1 j _ h1⟩
      · intro k hk
        rw [updL_out _ _ _ _ (by rw [srow_length s q n (by omega)]; omega)]
      · exact (((((((Fr.refl B b rb w).drewN d1).setRb hrb 2 _).drewN d2).setL (srow s q n) 1 hB).drewN d3).setRb hrb 1 _)
      · have h1 : (((((w.drewN d1).setCell ⟨rb, 2, none⟩ (.int .i64 (-1))).drewN d2).setCells b 1 (srow s q n)).drewN d3).heap[rb]? = some (.cells #[.string s, .int .i64 (q : Nat), .int .i64 (-1)] 154 (0, 0)) := by
          show ((((w.drewN d1).setCell ⟨rb, 2, none⟩ (.int .i64 (-1))).drewN d2).setCells b 1 (srow s q n)).heap[rb]? = _
          rw [setCells_heap _ _ _ _ _ hne]
          exact Lib.heap_setCell_same (i := 2) (w := w.drewN d1) hr _
        exact Lib.heap_setCell_same (i := 1) h1 _
  · have hq2 : q = s.size := by omega
    obtain ⟨ea, he⟩ := hG.eof
    refine (read_end s rb 1024 1025 q (some ⟨b, 1, none⟩) _ w hs c0 c1 he (by omega)).mono ?_
    rintro e wx ⟨rfl, d1, d2, rfl⟩
    refine ⟨0, _, rfl, .inr ⟨hq2, rfl, ea, rfl, he⟩, R, (hI.drewN d1).drewN d2, fun j hj => absurd hj (by omega), fun k _ => rfl, ((Fr.refl B b rb w).drewN d1).drewN d2, p, hr⟩

end Go.Proofs.YtblpcpkkjbkakaaGreatDoor
/- The scanner's state behind a refill. -/
namespace Go.Proofs.YtblpcpkkjbkakaaGreatDoor
open Go Go.RowKit
set_option linter.unusedVariables false
set_option linter.unusedSimpArgs false

theorem meth_read (a : Option Addr) (W : World) : (method 398 130 (.pointer a) "Read").run Tryz.prog W = .ok (204, .pointer a) W := by kernel_rfl

/-- The cells behind a refill of n bytes from place q. -/
structure Filled (s : ByteArray) (rb : Nat) (R R5 : Nat → Option Value) (q n : Nat) : Prop where
  src : R5 0 = some (.iface 130 (.pointer (some ⟨rb, 0, none⟩)))
  buf : ∀ i, i < 1025 → ∃ x : UInt8, R5 (1 + i) = some (.int .u8 x.toNat)
  own : ∀ j, j < n → ∃ h : q + j < s.size, R5 (1 + j) = some (.int .u8 (s[q + j].toNat))
  guard : R5 (1 + n) = some (.int .u8 128)
  c26 : R5 1026 = some (.int .i64 0)
  c27 : R5 1027 = some (.int .i64 n)
  c28 : R5 1028 = some (.int .i64 q)
  rest : ∀ k, 1029 ≤ k → k ≠ 1036 → R5 k = R k

theorem filled {s : ByteArray} {rb : Nat} {R R' R3 : Nat → Option Value} {en off la n : Nat} (hk : Ok s rb R en en off la) (hR' : ∀ k, k ≠ 1036 → R' k = R k)
    (hin : ∀ j, j < n → ∃ h : off + en + j < s.size, R3 (1 + j) = some (.int .u8 (s[off + en + j].toNat))) (hout : ∀ k, k = 0 ∨ 1 + n ≤ k → R3 k = upd R' 1028 (.int .i64 ((off : Int) + en)) k) (hn : n ≤ 1024) :
    Filled s rb R (upd (upd (upd R3 1026 (.int .i64 0)) 1027 (.int .i64 n)) (1 + n) (.int .u8 128)) (off + en) n where
  src := by
    rw [upd_ne _ _ _ _ (by omega), upd_ne _ _ _ _ (by omega), upd_ne _ _ _ _ (by omega), hout 0 (by omega), upd_ne _ _ _ _ (by omega), hR' 0 (by omega)]; exact hk.src
  buf := fun i hi => by
    by_cases h : i = n
    · subst h; exact ⟨128, upd_at _ _ _⟩
    · rw [upd_ne _ _ _ _ (by omega), upd_ne _ _ _ _ (by omega), upd_ne _ _ _ _ (by omega)]
      by_cases h2 : i < n
      · obtain ⟨hh, h3⟩ := hin i h2; exact ⟨_, h3⟩
      · rw [hout _ (by omega), upd_ne _ _ _ _ (by omega), hR' _ (by omega)]; exact hk.buf i hi
  own := fun j hj => by
    obtain ⟨hh, h3⟩ := hin j hj
    exact ⟨hh, by rw [upd_ne _ _ _ _ (by omega), upd_ne _ _ _ _ (by omega), upd_ne _ _ _ _ (by omega)]; exact h3⟩
  guard := upd_at _ _ _
  c26 := by rw [upd_ne _ _ _ _ (by omega), upd_ne _ _ _ _ (by omega), upd_at]
  c27 := by rw [upd_ne _ _ _ _ (by omega), upd_at]
  c28 := by rw [upd_ne _ _ _ _ (by omega), upd_ne _ _ _ _ (by omega), upd_ne _ _ _ _ (by omega), hout _ (by omega), upd_at]; simp
  rest := fun k hk1 hk2 => by rw [upd_ne _ _ _ _ (by omega), upd_ne _ _ _ _ (by omega), upd_ne _ _ _ _ (by omega), hout _ (by omega), upd_ne _ _ _ _ (by omega), hR' _ hk2]
theorem filled36 {R' R3 : Nat → Option Value} {en off n : Nat} (hout : ∀ k, k = 0 ∨ 1 + n ≤ k → R3 k = upd R' 1028 (.int .i64 ((off : Int) + en)) k) (hn : n ≤ 1024) :
    (upd (upd (upd R3 1026 (.int .i64 0)) 1027 (.int .i64 n)) (1 + n) (.int .u8 128)) 1036 = R' 1036 := by
  rw [upd_ne _ _ _ _ (by omega), upd_ne _ _ _ _ (by omega), upd_ne _ _ _ _ (by omega), hout _ (by omega), upd_ne _ _ _ _ (by omega)]

theorem Filled.ok {s : ByteArray} {rb : Nat} {R R5 R6 : Nat → Option Value} {q n pos' la' : Nat} (h : Filled s rb R R5 q n) (hs : s.size ≤ 2000) (hn : n ≤ 1024) (hq : q + n ≤ s.size) (h6 : ∀ k, k < 1026 ∨ k = 1027 ∨ k = 1028 → R6 k = R5 k)
    (c26 : R6 1026 = some (.int .i64 pos')) (c29 : ∃ x, R6 1029 = some (.int .i64 x)) (c30 : ∃ x, R6 1030 = some (.int .i64 x)) (c31 : ∃ x, R6 1031 = some (.int .i64 x)) (c32 : R6 1032 = some (.int .i64 la'))
    (hp : pos' ≤ n) (hl : la' ≤ pos') (hl1 : la' ≤ 1) : Ok s rb R6 pos' n q la' where
  src := (h6 0 (by omega)).trans h.src
  buf := fun i hi => by obtain ⟨x, hx⟩ := h.buf i hi; exact ⟨x, (h6 _ (by omega)).trans hx⟩
  own := fun j hj => by obtain ⟨x, hx⟩ := h.own j hj; exact ⟨x, (h6 _ (by omega)).trans hx⟩
  guard := (h6 _ (by omega)).trans h.guard
  cpos := c26
  cen := (h6 _ (by omega)).trans h.c27
  coff := (h6 _ (by omega)).trans h.c28
  cline := c29
  ccol := c30
  clast := c31
  cla := c32
  hpos := hp
  hen := hn
  hoff := hq
  hs := hs
  hla := hl
  hla1 := hl1

/-- The next character is read: the state. -/
theorem fin_more {s : ByteArray} {rb B b : Nat} {F R R5 R6 : Nat → Option Value} {q n : Nat} {tb : List UInt8} {T : Option Nat} {w w' : World} {x : Int} (h : Filled s rb R R5 q n) (hs : s.size ≤ 2000) (hn0 : 0 < n) (hn : n ≤ 1024) (hq : q + n ≤ s.size)
    (hT : Tk s R5 tb 0 q T) (hF : ∀ k, 1037 ≤ k → R k = F k) (hrb : B ≤ rb) (hne : rb ≠ b) (hx : ∃ hh : q < s.size, x = s[q].toNat)
    (hI : IsB B b R6 tb w') (h6 : ∀ k, k < 1026 ∨ k = 1027 ∨ k = 1028 ∨ 1036 ≤ k → R6 k = R5 k)
    (c26 : R6 1026 = some (.int .i64 1)) (c29 : ∃ x, R6 1029 = some (.int .i64 x)) (c30 : ∃ x, R6 1030 = some (.int .i64 x)) (c31 : ∃ x, R6 1031 = some (.int .i64 x)) (c32 : R6 1032 = some (.int .i64 1))
    (hr : ∃ p : Int, w'.heap[rb]? = some (.cells #[.string s, .int .i64 (q + n : Nat), .int .i64 p] 154 (0, 0))) (hfr : Fr B b rb w w') : NextPost s rb B b F q T w (.returned (.int .i32 x)) w' := by
  obtain ⟨hh, rfl⟩ := hx
  refine ⟨by unfold chr; rw [dif_pos hh], ⟨R6, 1, n, q, tb, hI, ?_, ?_, ?_, fun k hk1 => ?_, hrb, hne, hr⟩, hfr⟩
  · have : nl s q = 1 := by unfold nl; rw [if_pos hh]
    rw [this]
    exact h.ok hs hn hq (fun k hk => h6 k (by omega)) c26 c29 c30 c31 c32 (by omega) (by omega) (by omega)
  · have : nl s q = 1 := by unfold nl; rw [if_pos hh]
    rw [this]
    cases T with
    | none => exact (h6 _ (by omega)).trans hT
    | some t =>
      obtain ⟨tp, h1, h2, h3, h4⟩ := hT
      exact ⟨tp, (h6 _ (by omega)).trans h1, by omega, h3, h4⟩
  · unfold nx; rw [if_pos hh]
  · exact (h6 k (by omega)).trans ((h.rest k (by omega) (by omega)).trans (hF k hk1))

/-- The text is at its end: the state. -/
theorem fin_end {s : ByteArray} {rb B b : Nat} {F R R5 R6 : Nat → Option Value} {q : Nat} {tb : List UInt8} {T : Option Nat} {w w' : World} (h : Filled s rb R R5 q 0) (hs : s.size ≤ 2000) (hq : q = s.size)
    (hT : Tk s R5 tb 0 q T) (hF : ∀ k, 1037 ≤ k → R k = F k) (hrb : B ≤ rb) (hne : rb ≠ b)
    (hI : IsB B b R6 tb w') (h6 : ∀ k, k < 1026 ∨ k = 1027 ∨ k = 1028 ∨ 1036 ≤ k → R6 k = R5 k)
    (c26 : R6 1026 = some (.int .i64 0)) (c29 : ∃ x, R6 1029 = some (.int .i64 x)) (c30 : ∃ x, R6 1030 = some (.int .i64 x)) (c31 : ∃ x, R6 1031 = some (.int .i64 x)) (c32 : R6 1032 = some (.int .i64 0))
    (hr : ∃ p : Int, w'.heap[rb]? = some (.cells #[.string s, .int .i64 (q + 0 : Nat), .int .i64 p] 154 (0, 0))) (hfr : Fr B b rb w w') : NextPost s rb B b F q T w (.returned (.int .i32 (-1))) w' := by
  have hh : ¬ q < s.size := by omega
  refine ⟨by unfold chr; rw [dif_neg hh], ⟨R6, 0, 0, q, tb, hI, ?_, ?_, ?_, fun k hk1 => ?_, hrb, hne, hr⟩, hfr⟩
  · have : nl s q = 0 := by unfold nl; rw [if_neg hh]
    rw [this]
    exact h.ok hs (by omega) (by omega) (fun k hk => h6 k (by omega)) c26 c29 c30 c31 c32 (by omega) (by omega) (by omega)
  · have : nl s q = 0 := by unfold nl; rw [if_neg hh]
    rw [this]
    cases T with
    | none => exact (h6 _ (by omega)).trans hT
    | some t =>
      obtain ⟨tp, h1, h2, h3, h4⟩ := hT
      exact ⟨tp, (h6 _ (by omega)).trans h1, by omega, h3, h4⟩
  · unfold nx; rw [if_neg hh]; rfl
  · exact (h6 k (by omega)).trans ((h.rest k (by omega) (by omega)).trans (hF k hk1))

end Go.Proofs.YtblpcpkkjbkakaaGreatDoor
/- The next character where the scanner's bytes are used up. -/
namespace Go.Proofs.YtblpcpkkjbkakaaGreatDoor
open Go Go.RowKit
set_option linter.unusedVariables false
set_option linter.unusedSimpArgs false

theorem loop2 {P : Program} {c : Code} {Q : Exit → Act → World → Prop} {a : Act} {w : World}
    (h : ∀ RN : Act → World → Prop, RowKit.Hid (∀ a' w', c.wp P (Exit.then (fun _ _ => False) Q) a' w' → RN a' w') → c.wp P (Exit.then RN Q) a w) : (Code.loop c).wp P Q a w :=
  wp_loop_rounds 2 (by rw [rounds_succ]; exact h _ (Lib.hid fun a' w' h' => by rw [rounds_succ]; exact h'))

theorem neq_same (W : World) (a : Addr) : (binOp .neq 37 (.iface 215 (.pointer (some a))) (.iface 215 (.pointer (some a)))).run Tryz.prog W = .ok (.bool false) W := by
  have hc : (Tryz.prog.info? 215).map (·.comparable) = some true := by kernel_rfl
  obtain ⟨i, hi, hcmp⟩ := Option.map_eq_some_iff.1 hc
  have he : (Tryz.prog.info? 217).isSome = true := by kernel_rfl
  obtain ⟨j, hj⟩ := Option.isSome_iff_exists.1 he
  simp only [binOp]
  simp [Op.equal, Op.maxDepth, run_equalIn_iface_ptr_same W 9998 a Tryz.underlying37 Tryz.underlying215 hi hcmp hj]

set_option maxRecDepth 100000 in
set_option maxHeartbeats 4000000 in
theorem next_edge (s : ByteArray) (rb B b : Nat) (F R : Nat → Option Value) (en off la : Nat) (tb : List UInt8) (T : Option Nat) (w : World)
    (hI : IsB B b R tb w) (hk : Ok s rb R en en off la) (hT : Tk s R tb en off T) (hF : ∀ k, 1037 ≤ k → R k = F k) (hrb : B ≤ rb) (hne : rb ≠ b)
    (hr : ∃ p : Int, w.heap[rb]? = some (.cells #[.string s, .int .i64 (off + en : Nat), .int .i64 p] 154 (0, 0))) (ha : Plain s) (hG : Gl w) (hB9 : 9 ≤ B) :
    Calls Tryz.prog 86 #[.pointer (some ⟨b, 0, none⟩)] w (NextPost s rb B b F (off + en) T w) := by
  obtain ⟨c0, c26, c27, c28, c32⟩ := cells hI hk
  have c1 : w.cell? ⟨b, 1 + en, none⟩ = _ := at_cell hI hk.guard (by have := hk.hen; omega)
  have hen := hk.hen
  have hoff := hk.hoff
  have hs := hk.hs
  have hB := hI.1
  have hlt := hI.lt
  have hw4 : IntKind.i64.wrap ((en : Int) + 4) = en + 4 := by rw [IntKind.wrap_i64]; omega
  have hq4 : ((en : Int) < (en : Int) + 4) = True := eq_true (by omega)
  have hsl := fun W => slice88 b en en (Nat.le_refl _) (by omega) (by omega) W
  rw [Nat.sub_self] at hsl
  have hsl0 : ∀ W, (Instr.sliceAt 88 (.pointer (some ⟨b, 1, none⟩)) (some (.int .i64 0)) none none).run Tryz.prog W = .ok (.slice (some ⟨b, 1, none⟩) 1025 1025) W := fun W => slice88l b 0 (by omega) W
  have hce : ∀ d dLen dCap a c W, (Builtin.copy_ #[85, 85] 3 #[.slice d dLen dCap, .slice a 0 c]).run Tryz.prog W = .ok (goInt 0) W := fun d dLen dCap a c W => run_copy_none W 85 85 3 5 d _ dLen dCap 0 c Tryz.underlying85 info5' (by simp)
  have HT := Lib.hid hT; clear hT
  have HK := Lib.hid hk; clear hk
  have HF := Lib.hid hF; clear hF
  have HR := Lib.hid hr; clear hr
  have HG := Lib.hid hG; clear hG
  have HA := Lib.hid ha; clear ha
  go_enter Tryz.func86, Tryz.ntmps86
  go_wp2_with fail
  go_quiet (fail)
  revert nq; intro n1
  go_wp2_with fail
  refine loop2 (fun RN HRN => ?_)
  go_wp2_with fail
  go_quiet (first | (refine (fullRune_none _ _ _).mono ?_; rintro e w' ⟨rfl, rfl⟩; exact ⟨rfl, _, rfl⟩))
  revert nq; intro n2
  obtain ⟨W, hW⟩ : ∃ W, W = (w.drewN n1).drewN n2 := ⟨_, rfl⟩
  rw [← hW]
  have hIW : IsB B b R tb W := by rw [hW]; exact (hI.drewN _).drewN _
  have hfW : Fr B b rb w W := by rw [hW]; exact ((Fr.refl B b rb w).drewN _).drewN _
  have hrW : W.heap[rb]? = w.heap[rb]? := by rw [hW]; rfl
  clear hW n1 n2 c0 c26 c27 c28 c32 c1
  have HI := Lib.hid hI; clear hI
  obtain ⟨c0, c26, c27, c28, c32⟩ := cells hIW HK.out
  obtain ⟨v36, h36⟩ : ∃ v : Int, R 1036 = some (.int .i64 v) := by
    have := HT.out
    cases T with
    | none => exact ⟨_, this⟩
    | some t => obtain ⟨tp, h1, _⟩ := this; exact ⟨_, h1⟩
  have c36 := at_cell hIW h36 (by omega)
  go_upto_if 50 with fail
  go_cut [] (fun wx => Mid s rb B b en off R T w wx)
  case first =>
    have hT := HT.out
    cases T with
    | none =>
      have hv : v36 = -1 := by have h := h36.symm.trans hT; simpa using h
      subst hv
      go_wp2_with fail
      go_meet
      exact ⟨R, tb, hIW, fun _ _ => rfl, hT, hfW, hrW⟩
    | some t =>
      obtain ⟨tp, ht1, ht2, ht3, ht4⟩ := hT
      have hv : v36 = tp := by have h := h36.symm.trans ht1; simpa using h
      subst hv
      have hsl2 := fun W => slice88 b tp en ht2 (by omega) (by omega) W
      have f36 := hIW.notFrozen 1036
      have hge : ((0 : Int) ≤ tp) = True := eq_true (by omega)
      go_wp2_with fail
      have hsg := seg_length s (off + tp) (off + en) hoff
      have hwn : (seg s (off + tp) (off + en)).length = en - tp := by rw [hsg]; omega
      have hsrc : ∀ j (hj : j < (seg s (off + tp) (off + en)).length), R (1 + tp + j) = some (.int .u8 (seg s (off + tp) (off + en))[j].toNat) := by
        intro j hj
        obtain ⟨hh, h1⟩ := seg_get s (off + tp) (off + en) j hoff hj
        obtain ⟨h2, h3⟩ := HK.out.own (tp + j) (by omega)
        rw [h1, Nat.add_assoc, h3]
        simp only [Nat.add_assoc]
      have htl : tb.length ≤ 100000 := by rw [ht4]; unfold seg; rw [List.length_take, List.length_drop, ← Lib.size_eq]; omega
      have hBW : B ≤ W.heap.size := Nat.le_trans hB (Nat.le_of_lt hIW.lt)
      have hIW2 : IsB B b R tb W.drew := hIW.drew
      have hfin : ∀ W2, IsB B b R (tb ++ seg s (off + tp) (off + en)) W2 → Below B W.drew W2 → Lib.OthersKept 5 (some b) W.drew W2 → Mid s rb B b en off R (some t) w (W2.setCell ⟨b, 1036, none⟩ (.int .i64 0)) := by
        intro W2 h1 h2 h3
        refine ⟨upd R 1036 (.int .i64 0), tb ++ seg s (off + tp) (off + en), h1.set 1036 (by omega) (by rw [h36]; rfl) _, fun k hk1 => upd_ne _ _ _ _ hk1, ⟨0, upd_at _ _ _, Nat.le_refl _, by omega, ?_⟩, (hfW.trans ((Fr.refl B b rb W).drewN 1 |>.trans (Fr.of h2 h3))).set hB _ _, ?_⟩
        · rw [ht4, seg_append s t (off + tp) (off + en) ht3 (by omega)]; rfl
        · rw [Below.heap_setCell _ _ _ _ hne]
          obtain ⟨p, hp⟩ := HR.out
          rw [hp]
          exact h3 rb _ (hrW.trans hp) (fun e => hne (Option.some.inj e)) (fun c fz e => by simp at e)
      have HFIN := Lib.hid hfin; clear hfin
      have HSRC := Lib.hid hsrc; clear hsrc
      clear hsg ht4
      go_still_tail 15, (by kernel_rfl)
      change wpList _ _ _ _ _ W.drew
      go_wp2_with (go_at_call 97; refine (write_own B b R tb (seg s (off + tp) (off + en)) (1 + tp) (en - tp) _ _ hIW2 hBW hwn HSRC.out (by omega) htl).mono ?_)
      rintro e W2 ⟨rfl, h1, h2, h3⟩
      have c36' := at_cell h1 h36 (by omega)
      have f36' := h1.notFrozen 1036
      have H1 := Lib.hid h1; clear h1
      go_wp2_with fail
      go_meet
      exact HFIN.out W2 H1.out h2 h3
  case rest =>
    obtain ⟨R', tb', hI', hR', hT', hf', hr'⟩ := hcut
    clear c0 c26 c27 c28 c32 c36 hIW hfW hrW W h36 v36
    obtain ⟨p, hp⟩ := HR.out
    rw [hp] at hr'
    have hk := HK.out
    have e0 : R' 0 = _ := (hR' 0 (by omega)).trans hk.src
    have e26 : R' 1026 = _ := (hR' 1026 (by omega)).trans hk.cpos
    have e27 : R' 1027 = _ := (hR' 1027 (by omega)).trans hk.cen
    have e28 : R' 1028 = _ := (hR' 1028 (by omega)).trans hk.coff
    have ebuf : ∀ i, i < 1025 → ∃ x : UInt8, R' (1 + i) = some (.int .u8 x.toNat) := fun i hi => by obtain ⟨x, hx⟩ := hk.buf i hi; exact ⟨x, (hR' _ (by omega)).trans hx⟩
    clear hk
    have EB := Lib.hid ebuf; clear ebuf
    have HR' := Lib.hid hR'; clear hR'
    have HT' := Lib.hid hT'; clear hT'
    -- copy, of nothing
    have c26 := at_cell hI' e26 (by omega)
    have c27 := at_cell hI' e27 (by omega)
    go_wp2_with fail
    go_still_tail 16, (by kernel_rfl)
    change wpList _ _ _ _ _ wc.drew
    go_wp2_with fail
    obtain ⟨W1, hW1⟩ : ∃ W1, W1 = wc.drew := ⟨_, rfl⟩
    rw [← hW1]
    have hI1 : IsB B b R' tb' W1 := by rw [hW1]; exact hI'.drew
    have hf1 : Fr B b rb w W1 := by rw [hW1]; exact hf'.drewN 1
    have hr1 : W1.heap[rb]? = some (.cells #[.string s, .int .i64 (off + en : Nat), .int .i64 p] 154 (0, 0)) := by rw [hW1]; exact hr'
    clear hW1 hI' hf' hr' c26 c27 wc
    have c26 := at_cell hI1 e26 (by omega)
    have c28 := at_cell hI1 e28 (by omega)
    have f28 := hI1.notFrozen 1028
    have hwo : wrap64 ((off : Int) + en) = (off : Int) + en := by unfold wrap64; omega
    go_still_tail 11, (by kernel_rfl)
    change wpList _ _ _ _ _ W1.drew
    go_wp2_with fail
    obtain ⟨W2, hW2⟩ : ∃ W2, W2 = (W1.setCell ⟨b, 1028, none⟩ (.int .i64 ((off : Int) + en))).drew := ⟨_, rfl⟩
    rw [← hW2]
    have hI2 : IsB B b (upd R' 1028 (.int .i64 ((off : Int) + en))) tb' W2 := by rw [hW2]; exact (hI1.set 1028 (by omega) (by rw [e28]; rfl) _).drew
    have hf2 : Fr B b rb w W2 := by rw [hW2]; exact (hf1.set hB _ _).drewN 1
    have hr2 : W2.heap[rb]? = some (.cells #[.string s, .int .i64 (off + en : Nat), .int .i64 p] 154 (0, 0)) := by rw [hW2]; exact (Below.heap_setCell _ _ _ _ hne).trans hr1
    clear hW2 hI1 hf1 hr1 c26 c28 f28 W1
    have c0 := at_cell hI2 (k := 0) ((upd_ne _ _ _ _ (by omega)).trans e0) (by omega)
    have c26 := at_cell hI2 (k := 1026) ((upd_ne _ _ _ _ (by omega)).trans e26) (by omega)
    have c27 := at_cell hI2 (k := 1027) ((upd_ne _ _ _ _ (by omega)).trans e27) (by omega)
    have hw0 : wrap64 ((en : Int) - en) = 0 := by unfold wrap64; omega
    go_quiet (fail)
    obtain ⟨W3, hW3⟩ : ∃ W3, W3 = W2.drewN nq := ⟨_, rfl⟩
    rw [← hW3]
    have hI3 : IsB B b (upd R' 1028 (.int .i64 ((off : Int) + en))) tb' W3 := by rw [hW3]; exact hI2.drewN _
    have hf3 : Fr B b rb w W3 := by rw [hW3]; exact hf2.drewN _
    have hr3 : W3.heap[rb]? = some (.cells #[.string s, .int .i64 (off + en : Nat), .int .i64 p] 154 (0, 0)) := by rw [hW3]; exact hr2
    clear hW3 hI2 hf2 hr2 c26 c27 c0 nq W2
    have c0 := at_cell hI3 (k := 0) ((upd_ne _ _ _ _ (by omega)).trans e0) (by omega)
    have hsl1 : ∀ W, (Instr.sliceAt 88 (.pointer (some ⟨b, 1, none⟩)) (some (.int .i64 0)) (some (.int .i64 1024)) none).run Tryz.prog W = .ok (.slice (some ⟨b, 1, none⟩) 1024 1025) W := fun W => slice88 b 0 1024 (by omega) (by omega) (by omega) W
    go_upto_region 10 with fail
    go_cut [6, 7] (fun v6 v7 wx => ∃ n : Nat, v6 = .int .i64 n ∧ RedEnd s (off + en) n v7 wx ∧ Red s rb B b (off + en) n tb' (upd R' 1028 (.int .i64 ((off : Int) + en))) w wx)
    case first =>
      have hbs : ∀ i, i < 1025 → ((upd R' 1028 (.int .i64 ((off : Int) + en))) (1 + i)).isSome = true := fun i hi => by obtain ⟨x, hx⟩ := EB.out i hi; rw [upd_ne _ _ _ _ (by omega), hx]; rfl
      have hcon := read_step s rb B b (off + en) p tb' _ W3.drew hI3.drew hs hoff hbs hr3 hrb hne (HG.out.keep (hf3.1.trans (below_drewN (Below.refl B W3) 1)) hB9) hB9
      have HC := Lib.hid hcon; clear hcon
      have HF3 := Lib.hid hf3; clear hf3
      clear hbs hr3 hI3
      have hmr := fun W => meth_read (some ⟨rb, 0, none⟩) W
      go_region_with (first | (go_at_call 204; refine HC.out.mono ?_; rintro e wx ⟨n, v, rfl, h1, h2⟩; have H1 := Lib.hid h1; clear h1; have H2 := Lib.hid h2; clear h2))
      go_wp2_with fail
      go_meet
      obtain ⟨R3, k1, k2, k3, k4, k5⟩ := H2.out
      exact ⟨n, rfl, H1.out, R3, k1, k2, k3, (HF3.out.drewN 1).trans k4, k5⟩
    case rest =>
    clear c0 hsl1 hsl0 hsl hce hp hI3 hf3 hr3 W3 p
    obtain ⟨n, rfl, hend, R3, hI3, hin, hout, hf3, p3, hr3⟩ := hcut
    have he4 : ∀ ea, wc.cell? ⟨4, 0, none⟩ = some (.iface 215 (.pointer (some ea))) → w.cell? ⟨4, 0, none⟩ = some (.iface 215 (.pointer (some ea))) := fun ea h => (hf3.1.cell (p := ⟨4, 0, none⟩) (by simp; omega)).symm.trans h
    have HE4 := Lib.hid he4; clear he4
    have hn : n ≤ 1024 ∧ off + en + n ≤ s.size := by rcases hend with ⟨_, _, h1, h2, _⟩ | ⟨h1, h2, _⟩ <;> omega
    obtain ⟨hn, hqn⟩ := hn
    have hk := HK.out
    have hfl := filled hk HR'.out hin hout hn
    have hf36 := filled36 hout hn
    have x26 : R3 1026 = _ := (hout 1026 (by omega)).trans ((upd_ne _ _ _ _ (by omega)).trans e26)
    have x27 : R3 1027 = _ := (hout 1027 (by omega)).trans ((upd_ne _ _ _ _ (by omega)).trans e27)
    have x1n : (R3 (1 + n)).isSome = true := by
      obtain ⟨x, hx⟩ := EB.out n (by omega)
      rw [hout _ (by omega), upd_ne _ _ _ _ (by omega), hx]; rfl
    have hI4 : IsB B b (upd (upd R3 1026 (.int .i64 0)) 1027 (.int .i64 n)) tb' ((wc.setCell ⟨b, 1026, none⟩ (.int .i64 0)).setCell ⟨b, 1027, none⟩ (.int .i64 n)) :=
      IsB.set (IsB.set hI3 1026 (by omega) (by rw [x26]; rfl) _) 1027 (by omega) (by rw [upd_ne _ _ _ _ (by omega), x27]; rfl) _
    have hf4 : Fr B b rb w ((wc.setCell ⟨b, 1026, none⟩ (.int .i64 0)).setCell ⟨b, 1027, none⟩ (.int .i64 n)) := (hf3.set hB _ _).set hB _ _
    have hr4 : ((wc.setCell ⟨b, 1026, none⟩ (.int .i64 0)).setCell ⟨b, 1027, none⟩ (.int .i64 n)).heap[rb]? = some (.cells #[.string s, .int .i64 (off + en + n : Nat), .int .i64 p3] 154 (0, 0)) := by
      rw [Below.heap_setCell _ _ _ _ hne, Below.heap_setCell _ _ _ _ hne]; exact hr3
    have c26 := at_cell hI3 x26 (by omega)
    have c27 := at_cell hI3 x27 (by omega)
    have f26 := hI3.notFrozen 1026
    have f27 := hI3.notFrozen 1027
    have HIN := Lib.hid hin; clear hin
    have HOUT := Lib.hid hout; clear hout
    have HK2 := Lib.hid hfl; clear hfl
    have H36 := Lib.hid hf36; clear hf36
    have HI4 := Lib.hid hI4; clear hI4
    have HF4 := Lib.hid hf4; clear hf4
    have HR4 := Lib.hid hr4; clear hr4
    have HEND := Lib.hid hend; clear hend
    clear hk e0 e26 e27 e28 x26 x27
    go_upto_region 13 with fail
    obtain ⟨W4, hW4⟩ : ∃ W4, W4 = (wc.setCell ⟨b, 1026, none⟩ (.int .i64 0)).setCell ⟨b, 1027, none⟩ (.int .i64 n) := ⟨_, rfl⟩
    rw [← hW4]
    have hI4 := HI4.out
    have hf4 := HF4.out
    have hr4 := HR4.out
    rw [← hW4] at hI4 hf4 hr4
    clear hW4 HI4 HF4 HR4 c26 c27 f26 f27 hI3 hf3 hr3
    have c27 := at_cell hI4 (upd_at _ _ _) (by omega)
    have cN : ∃ v, W4.cell? ⟨b, 1 + n, none⟩ = some v := by
      obtain ⟨v, hv⟩ := Option.isSome_iff_exists.1 x1n
      exact ⟨v, at_cell hI4 (k := 1 + n) (by rw [upd_ne _ _ _ _ (by omega), upd_ne _ _ _ _ (by omega)]; exact hv) (by omega)⟩
    obtain ⟨vN, cN⟩ := cN
    have fN := hI4.notFrozen (1 + n)
    have hn5 : ((n : Int) < 1025) = True := eq_true (by omega)
    have hn6 : ((0 : Int) ≤ (n : Int)) = True := eq_true (by omega)
    go_still_tail 8, (by kernel_rfl)
    change wpList _ _ _ _ _ W4.drew
    go_upto_region 14 with fail
    obtain ⟨W5, hW5⟩ : ∃ W5, W5 = (W4.setCell ⟨b, 1 + n, none⟩ (.int .u8 128)).drew := ⟨_, rfl⟩
    rw [← hW5]
    have hI5 : IsB B b (upd (upd (upd R3 1026 (.int .i64 0)) 1027 (.int .i64 n)) (1 + n) (.int .u8 128)) tb' W5 := by
      rw [hW5]
      exact (IsB.set hI4 (1 + n) (by omega) (by rw [upd_ne _ _ _ _ (by omega), upd_ne _ _ _ _ (by omega)]; exact x1n) _).drew
    have hf5 : Fr B b rb w W5 := by rw [hW5]; exact (hf4.set hB _ _).drewN 1
    have hr5 : W5.heap[rb]? = some (.cells #[.string s, .int .i64 (off + en + n : Nat), .int .i64 p3] 154 (0, 0)) := by rw [hW5]; exact (Below.heap_setCell _ _ _ _ hne).trans hr4
    clear hW5 hI4 hf4 hr4 c27 cN fN x1n vN hn5 hn6 W4
    rcases HEND.out with ⟨hm, hn0, -, -, rfl⟩ | ⟨hm, rfl, ea, rfl, h4⟩
    · go_wp2_with fail
      refine HRN.out _ _ ?_
      clear HRN
      have hfl := HK2.out
      have c26 := at_cell hI5 hfl.c26 (by omega)
      have c27 := at_cell hI5 hfl.c27 (by omega)
      obtain ⟨hh0, hx0⟩ := hfl.own 0 hn0
      obtain ⟨x, hx⟩ : ∃ x : Int, x = s[off + en + 0].toNat := ⟨_, rfl⟩
      rw [← hx] at hx0
      have hx1 : 0 < x := by have := (HA.out _ hh0).1; omega
      have hx2 : x < 128 := by have := (HA.out _ hh0).2; omega
      have c1 := at_cell hI5 hx0 (by omega)
      have HX := Lib.hid hx; clear hx hx0 hfl
      go_upto_region 3 with fail
      go_cut [45] (fun v wx => v = .bool false ∧ ∃ d, wx = W5.drewN d)
      case first =>
        by_cases h4 : n < 4
        · have hq5 : ((n : Int) < 4) = True := eq_true (by omega)
          have hsl3 : ∀ W, (Instr.sliceAt 88 (.pointer (some ⟨b, 1, none⟩)) (some (.int .i64 0)) (some (.int .i64 n)) none).run Tryz.prog W = .ok (.slice (some ⟨b, 1, none⟩) n 1025) W := fun W => slice88 b 0 n (by omega) (by omega) (by omega) W
          have hU := (HG.out.keep hf5.1 hB9).first x.toNat (by omega)
          go_quiet (first | (refine (fullRune_plain b 1 n 1025 x _ ?_ (by omega) hx2 hn0 (by omega) (by omega) ?_).mono ?_; exact c1; exact hU; rintro e w' ⟨rfl, rfl⟩; exact ⟨rfl, _, rfl⟩))
          go_wp2_with fail
          go_meet
          exact ⟨rfl, nq, rfl⟩
        · have hq5 : ((n : Int) < 4) = False := eq_false (by omega)
          go_quiet (fail)
          go_wp2_with fail
          go_meet
          exact ⟨rfl, nq, rfl⟩
      case rest =>
        obtain ⟨rfl, d, rfl⟩ := hcut
        have hfl := HK2.out
        obtain ⟨R5, hR5⟩ : ∃ R5, R5 = (upd (upd (upd R3 1026 (.int .i64 0)) 1027 (.int .i64 n)) (1 + n) (.int .u8 128)) := ⟨_, rfl⟩
        have h36 := H36.out
        rw [← hR5] at hI5 hfl h36
        have hT5 : Tk s R5 tb' 0 (off + en) T := by
          have := HT'.out
          cases T with
          | none => exact h36.trans this
          | some t => obtain ⟨tp, k1, k2, k3, k4⟩ := this; exact ⟨tp, h36.trans k1, k2, k3, k4⟩
        obtain ⟨col, hcol⟩ := HK.out.ccol
        obtain ⟨line, hline⟩ := HK.out.cline
        obtain ⟨last, hlast⟩ := HK.out.clast
        have r30 : R5 1030 = _ := (hfl.rest 1030 (by omega) (by omega)).trans hcol
        have r29 : R5 1029 = _ := (hfl.rest 1029 (by omega) (by omega)).trans hline
        have r31 : R5 1031 = _ := (hfl.rest 1031 (by omega) (by omega)).trans hlast
        have r32 : R5 1032 = _ := (hfl.rest 1032 (by omega) (by omega)).trans HK.out.cla
        have c30 := at_cell hI5 r30 (by omega)
        have c29 := at_cell hI5 r29 (by omega)
        have c31 := at_cell hI5 r31 (by omega)
        have c32 := at_cell hI5 r32 (by omega)
        have f26 := hI5.notFrozen 1026
        have f29 := hI5.notFrozen 1029
        have f30 := hI5.notFrozen 1030
        have f31 := hI5.notFrozen 1031
        have f32 := hI5.notFrozen 1032
        have hwx : wrap32 x = x := by unfold wrap32; omega
        have HI5 := Lib.hid hI5; clear hI5
        have HF5 := Lib.hid hf5; clear hf5
        have HR5 := Lib.hid hr5; clear hr5
        have HFL := Lib.hid hfl; clear hfl
        have HT5 := Lib.hid hT5; clear hT5
        have G30 := Lib.hid r30; clear r30
        have G29 := Lib.hid r29; clear r29
        have G31 := Lib.hid r31; clear r31
        have G32 := Lib.hid r32; clear r32
        clear h36 hR5 hcol hline hlast
        go_wp2_with fail
        go_quiet (fail)
        clear hwx
        by_cases hnl : x = 10
        · subst hnl
          go_wp2_with fail
          go_light
          go_ret
          refine fin_more (R6 := upd (upd (upd (upd (upd (upd R5 1026 (.int .i64 1)) 1032 (.int .i64 1)) 1030 (.int .i64 (wrap64 (col + 1)))) 1029 (.int .i64 (wrap64 (line + 1)))) 1031 (.int .i64 (wrap64 (col + 1)))) 1030 (.int .i64 0)) HFL.out hs hn0 hn hqn HT5.out HF.out hrb hne ⟨hh0, HX.out⟩ ?_ ?_ ?_ ?_ ?_ ?_ ?_ ⟨p3, ?_⟩ ?_
          · refine IsB.set (IsB.set (IsB.set (IsB.set (IsB.set (IsB.set (HI5.out.drewN _) 1026 (by omega) ?_ _) 1032 (by omega) ?_ _) 1030 (by omega) ?_ _) 1029 (by omega) ?_ _) 1031 (by omega) ?_ _) 1030 (by omega) ?_ _ <;>
              simp [upd, HFL.out.c26, G29.out, G30.out, G31.out, G32.out]
          · intro k hk1; simp only [upd]; repeat rw [if_neg (by omega)]
          · simp [upd]
          · simp [upd]
          · simp [upd]
          · simp [upd]
          · simp [upd]
          · repeat rw [Below.heap_setCell _ _ _ _ hne]
            exact HR5.out
          · exact (((((((HF5.out.drewN _).set hB _ _).set hB _ _).set hB _ _).set hB _ _).set hB _ _).set hB _ _)
        · go_wp2_with fail
          go_light
          go_ret
          refine fin_more (R6 := upd (upd (upd R5 1026 (.int .i64 1)) 1032 (.int .i64 1)) 1030 (.int .i64 (wrap64 (col + 1)))) HFL.out hs hn0 hn hqn HT5.out HF.out hrb hne ⟨hh0, HX.out⟩ ?_ ?_ ?_ ?_ ?_ ?_ ?_ ⟨p3, ?_⟩ ?_
          · refine IsB.set (IsB.set (IsB.set (HI5.out.drewN _) 1026 (by omega) ?_ _) 1032 (by omega) ?_ _) 1030 (by omega) ?_ _ <;>
              simp [upd, HFL.out.c26, G29.out, G30.out, G31.out, G32.out]
          · intro k hk1; simp only [upd]; repeat rw [if_neg (by omega)]
          · simp [upd]
          · simp [upd, G29.out]
          · simp [upd]
          · simp [upd, G31.out]
          · simp [upd]
          · repeat rw [Below.heap_setCell _ _ _ _ hne]
            exact HR5.out
          · exact ((((HF5.out.drewN _).set hB _ _).set hB _ _).set hB _ _)
    · have c4 : W5.cell? ⟨4, 0, none⟩ = some (.iface 215 (.pointer (some ea))) := (hf5.1.cell (p := ⟨4, 0, none⟩) (by simp; omega)).trans (HE4.out ea h4)
      clear HRN
      have hfl := HK2.out
      have c27 := at_cell hI5 hfl.c27 (by omega)
      obtain ⟨R5, hR5⟩ : ∃ R5, R5 = (upd (upd (upd R3 1026 (.int .i64 0)) 1027 (.int .i64 (0 : Nat))) (1 + 0) (.int .u8 128)) := ⟨_, rfl⟩
      have h36 := H36.out
      rw [← hR5] at hI5 hfl h36
      have hT5 : Tk s R5 tb' 0 (off + en) T := by
        have := HT'.out
        cases T with
        | none => exact h36.trans this
        | some t => obtain ⟨tp, k1, k2, k3, k4⟩ := this; exact ⟨tp, h36.trans k1, k2, k3, k4⟩
      obtain ⟨col, hcol⟩ := HK.out.ccol
      obtain ⟨line, hline⟩ := HK.out.cline
      obtain ⟨last, hlast⟩ := HK.out.clast
      have r30 : R5 1030 = _ := (hfl.rest 1030 (by omega) (by omega)).trans hcol
      have r29 : R5 1029 = _ := (hfl.rest 1029 (by omega) (by omega)).trans hline
      have r31 : R5 1031 = _ := (hfl.rest 1031 (by omega) (by omega)).trans hlast
      have r32 : R5 1032 = _ := (hfl.rest 1032 (by omega) (by omega)).trans HK.out.cla
      have c30 := at_cell hI5 r30 (by omega)
      have c32 := at_cell hI5 r32 (by omega)
      have f30 := hI5.notFrozen 1030
      have f32 := hI5.notFrozen 1032
      have hnq := fun W => neq_same W ea
      have HI5 := Lib.hid hI5; clear hI5
      have HF5 := Lib.hid hf5; clear hf5
      have HR5 := Lib.hid hr5; clear hr5
      have HFL := Lib.hid hfl; clear hfl
      have HT5 := Lib.hid hT5; clear hT5
      have G30 := Lib.hid r30; clear r30
      have G29 := Lib.hid r29; clear r29
      have G31 := Lib.hid r31; clear r31
      have G32 := Lib.hid r32; clear r32
      clear h36 hR5 hcol hline hlast
      have HM := Lib.hid hm; clear hm
      by_cases hla : (0 : Int) < (la : Int)
      · have hla' : ((0 : Int) < (la : Int)) = True := eq_true hla
        go_wp2_with fail
        go_ret
        refine fin_end (R6 := upd (upd R5 1030 (.int .i64 (wrap64 (col + 1)))) 1032 (.int .i64 0)) HFL.out hs HM.out HT5.out HF.out hrb hne ?_ ?_ ?_ ?_ ?_ ?_ ?_ ⟨p3, ?_⟩ ?_
        · refine IsB.set (IsB.set HI5.out 1030 (by omega) ?_ _) 1032 (by omega) ?_ _ <;>
            simp [upd, G30.out, G32.out]
        · intro k hk1; simp only [upd]; repeat rw [if_neg (by omega)]
        · simp [upd, HFL.out.c26]
        · simp [upd, G29.out]
        · simp [upd]
        · simp [upd, G31.out]
        · simp [upd]
        · repeat rw [Below.heap_setCell _ _ _ _ hne]
          exact HR5.out
        · exact ((HF5.out.set hB _ _).set hB _ _)
      · have hla' : ((0 : Int) < (la : Int)) = False := eq_false hla
        go_wp2_with fail
        go_ret
        refine fin_end (R6 := upd R5 1032 (.int .i64 0)) HFL.out hs HM.out HT5.out HF.out hrb hne ?_ ?_ ?_ ?_ ?_ ?_ ?_ ⟨p3, ?_⟩ ?_
        · refine IsB.set HI5.out 1032 (by omega) ?_ _
          simp [G32.out]
        · intro k hk1; simp only [upd]; repeat rw [if_neg (by omega)]
        · simp [upd, HFL.out.c26]
        · simp [upd, G29.out]
        · simp [upd, G30.out]
        · simp [upd, G31.out]
        · simp [upd]
        · repeat rw [Below.heap_setCell _ _ _ _ hne]
          exact HR5.out
        · exact (HF5.out.set hB _ _)

theorem next_any (s : ByteArray) (rb B b : Nat) (F : Nat → Option Value) (q la : Nat) (T : Option Nat) (w : World)
    (h : St s rb B b F q la T w) (ha : Plain s) (hG : Gl w) (hB9 : 9 ≤ B) :
    Calls Tryz.prog 86 #[.pointer (some ⟨b, 0, none⟩)] w (NextPost s rb B b F q T w) := by
  obtain ⟨R, pos, en, off, tb, hI, hk, hT, rfl, hF, hrb, hne, hr⟩ := h
  replace hT := hT.mono (Nat.sub_le pos la)
  by_cases hp : pos < en
  · exact next_in s rb B b F R pos en off la tb T w hI hk hT hF hrb hne hr hp ha
  · obtain rfl : pos = en := by have := hk.hpos; omega
    exact next_edge s rb B b F R pos off la tb T w hI hk hT hF hrb hne hr ha hG hB9

end Go.Proofs.YtblpcpkkjbkakaaGreatDoor
