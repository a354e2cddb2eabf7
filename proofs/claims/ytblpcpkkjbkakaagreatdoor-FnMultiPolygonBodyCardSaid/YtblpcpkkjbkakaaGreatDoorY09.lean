/- Lemmas towards the seat's laws: 1 texts joined. -/
import Derived.Test.YtblpcpkkjbkakaaGreatDoorY07
import Derived.Test.YtblpcpkkjbkakaaGreatDoorY08
/- The scanner's token buffer: Reset, and Write of bytes that lie in the scanner's own block. -/
namespace Go.Proofs.YtblpcpkkjbkakaaGreatDoor
open Go Go.RowKit
set_option linter.unusedVariables false
set_option linter.unusedSimpArgs false

/-- Only the parser's own block may have turned, or rows of bytes; the frame of a call on the token buffer. -/
def BufPost (B b : Nat) (R : Nat → Option Value) (tb : List UInt8) (v : Value) (w : World) (e : Ending) (w' : World) : Prop :=
  e = .returned v ∧ IsB B b R tb w' ∧ Below B w w' ∧ Lib.OthersKept 5 (some b) w w'

set_option maxRecDepth 100000 in
set_option maxHeartbeats 2000000 in
theorem reset_any (B b : Nat) (R : Nat → Option Value) (tb : List UInt8) (w : World) (h : IsB B b R tb w) :
    Calls Tryz.prog 87 #[.pointer (some ⟨b, 1033, none⟩)] w (BufPost B b R [] (.tuple #[]) w) := by
  obtain ⟨hB, lr, hc⟩ := h.cases
  have HH := Lib.hid h; clear h
  have hfr : ∀ v, Below B w (((w.setCell ⟨b, 1033, none⟩ v).setCell ⟨b, 1034, none⟩ (.int .i64 0)).setCell ⟨b, 1035, none⟩ (.int .i8 0)) ∧ Lib.OthersKept 5 (some b) w (((w.setCell ⟨b, 1033, none⟩ v).setCell ⟨b, 1034, none⟩ (.int .i64 0)).setCell ⟨b, 1035, none⟩ (.int .i8 0)) := fun v =>
    ⟨(((Below.refl B w).setCell (p := ⟨b, 1033, none⟩) hB _).setCell (p := ⟨b, 1034, none⟩) hB _).setCell (p := ⟨b, 1035, none⟩) hB _, (((Lib.OthersKept.refl _ _ w).setCell ⟨b, 1033, none⟩ rfl _).setCell ⟨b, 1034, none⟩ rfl _).setCell ⟨b, 1035, none⟩ rfl _⟩
  rcases hc with ⟨h0, hbk⟩ | ⟨g, cap, cur, hbk, hBg, hg, hnc, hcm, hcs, -, hgb⟩
  · have c0 : w.cell? ⟨b, 1033, none⟩ = some (.slice none 0 0) := hbk.c0
    have c1 : w.cell? ⟨b, 1034, none⟩ = some (.int .i64 0) := hbk.c1
    have c2 : w.cell? ⟨b, 1035, none⟩ = some (.int .i8 lr) := hbk.c2
    have f0 := hbk.f 1033
    have f1 := hbk.f 1034
    have f2 := hbk.f 1035
    have HB := Lib.hid hbk; clear hbk
    go_enter Tryz.func87, Tryz.ntmps87
    go_wp2_with fail
    go_end0
    exact ⟨rfl, ⟨hB, _, 0, ((HB.out.set0 _).set1 _).set2 _, World.ownsRow_nil _ _ _ _, by simp [Value.ownBlock]⟩, hfr _⟩
  · have c0 : w.cell? ⟨b, 1033, none⟩ = some (.slice (some ⟨g, 0, none⟩) (Lib.byteCells tb).length cap) := hbk.c0
    have c1 : w.cell? ⟨b, 1034, none⟩ = some (.int .i64 0) := hbk.c1
    have c2 : w.cell? ⟨b, 1035, none⟩ = some (.int .i8 lr) := hbk.c2
    have f0 := hbk.f 1033
    have f1 := hbk.f 1034
    have f2 := hbk.f 1035
    have HB := Lib.hid hbk; clear hbk
    have hgw : ∀ v, (((w.setCell ⟨b, 1033, none⟩ v).setCell ⟨b, 1034, none⟩ (.int .i64 0)).setCell ⟨b, 1035, none⟩ (.int .i8 0)).heap[g]? = some (.cells cur 5 (0, 0)) := fun v => by
      repeat rw [Below.heap_setCell _ _ _ _ hgb]
      exact hg
    have HG := Lib.hid hgw; clear hgw hg
    go_enter Tryz.func87, Tryz.ntmps87
    go_wp2_with fail
    go_end0
    refine ⟨rfl, ?_, hfr _⟩
    have := LibA.isBuffer_mk (T := 104) (R := R) (b := b) (o := 1033) (n := 0) (cap := cap) (lr := 0) hB (((HB.out.set0 (.slice (some ⟨g, 0, none⟩) 0 cap)).set1 (.int .i64 0)).set2 (.int .i8 0)) hBg (HG.out _) (Nat.zero_le _) hcm hcs hgb
    simpa [IsB, Lib.byteCells] using this

theorem byteCells_get (l : List UInt8) (j : Nat) (v : Value) (h : (Lib.byteCells l)[j]? = some v) : ∃ hj : j < l.length, v = .int .u8 l[j].toNat := by
  unfold Lib.byteCells at h
  rw [List.getElem?_map] at h
  cases hl : l[j]? with
  | none => rw [hl] at h; simp at h
  | some x =>
    obtain ⟨hj, rfl⟩ := List.getElem?_eq_some_iff.1 hl
    rw [hl] at h
    simp at h
    exact ⟨hj, h.symm⟩

theorem info5' : (Tryz.prog.info? 5).map (·.size) = some 1 := by kernel_rfl

set_option maxHeartbeats 6400000 in
set_option maxRecDepth 100000 in
/-- Write, of bytes that lie in the scanner's own block ahead of the buffer. -/
theorem write_own (B b : Nat) (R : Nat → Option Value) (tb cs : List UInt8) (k n c : Nat) (w : World) (h : IsB B b R tb w) (hBw : B ≤ w.heap.size)
    (hn : cs.length = n) (hsrc : ∀ j (hj : j < cs.length), R (k + j) = some (.int .u8 cs[j].toNat)) (hk : k + n ≤ 1026) (hlim : tb.length ≤ 100000) :
    Calls Tryz.prog 97 #[.pointer (some ⟨b, 1033, none⟩), .slice (some ⟨b, k, none⟩) n c] w (BufPost B b R (tb ++ cs) (.tuple #[.int .i64 n, .nilIface]) w) := by
  have hcl : (Lib.byteCells cs).length = n := by rw [Lib.byteCells_length]; exact hn
  have htl : (Lib.byteCells tb).length = tb.length := Lib.byteCells_length _
  have hadd : ∀ j, (⟨b, k, none⟩ : Addr).add j = ⟨b, k + j, none⟩ := fun j => by unfold Addr.add; split <;> simp_all
  have hrd : ∀ (W : World) (bs : List Value), LibA.IsBuffer 104 R 5 B b 1033 bs W → ∀ j v, (Lib.byteCells cs)[j]? = some v → W.cell? ((⟨b, k, none⟩ : Addr).add j) = some v := by
    intro W bs hI j v hj
    obtain ⟨hj2, rfl⟩ := byteCells_get cs j v hj
    rw [hadd, hI.rest (k + j) (by omega)]
    exact hsrc j hj2
  have e1 : Lib.byteCells (tb ++ cs) = Lib.byteCells tb ++ Lib.byteCells cs := by unfold Lib.byteCells; rw [List.map_append]
  obtain ⟨hB, v0, lr, hbk, -, -⟩ := id h
  have c2 : w.cell? ⟨b, 1035, none⟩ = some (.int .i8 lr) := hbk.c2
  have f2 : w.frozen? ⟨b, 1035, none⟩ = false := hbk.f 1035
  have h' := h.setLast 0
  have hbel0 : Below B w (w.setCell ⟨b, 1035, none⟩ (.int .i8 0)) := (Below.refl B w).setCell (p := ⟨b, 1035, none⟩) hB _
  have hk0 : Lib.OthersKept 5 (some b) w (w.setCell ⟨b, 1035, none⟩ (.int .i8 0)) := (Lib.OthersKept.refl _ _ w).setCell ⟨b, 1035, none⟩ rfl _
  have hBw' : B ≤ (w.setCell ⟨b, 1035, none⟩ (.int .i8 0)).heap.size := by simpa [World.setCell] using hBw
  have h1 : ∀ v ∈ Lib.byteCells tb, v.oneCell' = true := Lib.byteCells_one _
  have h1c : ∀ v ∈ Lib.byteCells cs, v.oneCell' = true := Lib.byteCells_one _
  clear hbk v0
  have HSRC := Lib.hid hsrc; clear hsrc
  have HRD := Lib.hid hrd; clear hrd
  have HE := Lib.hid e1; clear e1
  have H1 := Lib.hid h1; clear h1
  have H1C := Lib.hid h1c; clear h1c
  have HADD := Lib.hid hadd; clear hadd
  -- WHAT FOLLOWS once there is room for n more
  have key : ∀ (W1 : World) (xs : List Value), xs.length = n → LibA.IsBuffer 104 R 5 B b 1033 (Lib.byteCells tb ++ xs) W1 → 0 < n →
      ∃ g cap W2, W1.cell? ⟨b, 1033, none⟩ = some (.slice (some ⟨g, 0, none⟩) (tb.length + n) cap) ∧ tb.length + n ≤ cap ∧ cap ≤ maxLen ∧
        (Builtin.copy_ #[85, 85] 3 #[.slice (some ⟨g, tb.length, none⟩) n (cap - tb.length), .slice (some ⟨b, k, none⟩) n c]).run Tryz.prog W1 = .ok (goInt n) W2 ∧
        IsB B b R (tb ++ cs) W2 ∧ Below B W1 W2 ∧ ∀ w0, Lib.OthersKept 5 (some b) w0 W1 → Lib.OthersKept 5 (some b) w0 W2 := by
    intro W1 xs hxl hI hn0
    obtain ⟨-, lr2, hc⟩ := hI.cases
    rcases hc with ⟨hnil, -⟩ | ⟨g, cap, cur, hbk2, hBg, hg, hnc, hcm, hcs, htk, hgb⟩
    · exact absurd (congrArg List.length hnil) (by rw [List.length_append, hxl, List.length_nil]; omega)
    · rw [List.length_append, hxl, htl] at hbk2 hnc htk
      have hcp := run_copy_row (P := Tryz.prog) W1 85 85 3 5 g tb.length n (cap - tb.length) ⟨b, k, none⟩ n c cur 5 (Lib.byteCells cs) Tryz.underlying85 info5' hg (by rw [hcl]; exact (Nat.min_self n).symm) (HRD.out W1 _ hI) (by rw [hcl]; omega) H1C.out
      rw [hcl] at hcp
      obtain ⟨r1, r2⟩ := LibA.written_end (news := Lib.byteCells cs) (l := tb.length) hB (by rw [hcl]; exact hbk2) hBg hg hcm hcs hgb (by rw [hcl]; exact hnc)
      have e1 : cur.toList.take tb.length = Lib.byteCells tb := by
        have h3 := congrArg (List.take tb.length) htk
        rwa [List.take_take, Nat.min_eq_left (Nat.le_add_right _ _), List.take_left' htl] at h3
      rw [hcl] at r1 r2
      refine ⟨g, cap, _, hbk2.c0, hnc, hcm, hcp, ?_, r2, fun w0 h0 => h0.setRow hg _⟩
      · have : LibA.IsBuffer 104 R 5 B b 1033 (Lib.byteCells (tb ++ cs)) (W1.setRow g (cur.toList.take tb.length ++ Lib.byteCells cs ++ cur.toList.drop (tb.length + n)).toArray) := by
          rw [HE.out]
          rw [e1] at r1 ⊢
          exact r1
        exact this
  have KEY := Lib.hid key; clear key
  by_cases hs0 : n = 0
  · subst hs0
    have hc0 : cs = [] := List.eq_nil_of_length_eq_zero hn
    subst hc0
    have hce : ∀ d dLen dCap W, (Builtin.copy_ #[85, 85] 3 #[.slice d dLen dCap, .slice (some ⟨b, k, none⟩) 0 c]).run Tryz.prog W = .ok (goInt 0) W := fun d dLen dCap W => run_copy_none W 85 85 3 5 d _ dLen dCap 0 c Tryz.underlying85 info5' (by simp)
    have HCE := Lib.hid hce; clear hce
    go_enter Tryz.func97, Tryz.ntmps97
    go_wp2_with fail
    refine (Tryz.Buffer_tryGrow_at 104 R B b 1033 0 (Lib.byteCells tb) _ h').mono ?_
    rintro e W1 (⟨rfl, xs, hxl, hI, hbel, hk, hg⟩ | ⟨rfl, rfl, hnr⟩)
    · have hce := HCE.out
      have hx0 : xs = [] := List.eq_nil_of_length_eq_zero hxl
      subst hx0
      rw [List.append_nil] at hI
      rw [htl]
      obtain ⟨-, lr2, hc⟩ := hI.cases
      rcases hc with ⟨hb0, hbk2⟩ | ⟨g, cap, cur, hbk2, -, -, hnc, hcm, -, -, -⟩
      · have d0 : W1.cell? ⟨b, 1033, none⟩ = some (.slice none 0 0) := hbk2.c0
        have htl0 : tb.length = 0 := by rw [← htl, hb0]; rfl
        rw [htl0]
        go_wp2_with fail
        go_ret2
        exact ⟨rfl, by simpa using hI, hbel0.trans hbel, hk0.trans hk⟩
      · have d0 : W1.cell? ⟨b, 1033, none⟩ = some (.slice (some ⟨g, 0, none⟩) (Lib.byteCells tb).length cap) := hbk2.c0
        rw [htl] at d0 hnc
        unfold maxLen at hcm
        clear hbk2
        go_wp2_with fail
        all_goals (go_ret2; exact ⟨rfl, by simpa using hI, hbel0.trans hbel, hk0.trans hk⟩)
    · obtain ⟨_, _, _, _, hlt⟩ := hnr
      omega
  · have hn0 : 0 < n := by omega
    have hlim2 : (Lib.byteCells tb).length + n ≤ 140737488355328 := by rw [htl]; omega
    go_enter Tryz.func97, Tryz.ntmps97
    go_wp2_with fail
    refine (Tryz.Buffer_tryGrow_at 104 R B b 1033 n (Lib.byteCells tb) _ h').mono ?_
    rintro e W1 (⟨rfl, xs, hxl, hI, hbel, hk3, hg⟩ | ⟨rfl, rfl, hnr⟩)
    · obtain ⟨g, cap, W2, d0, hnc, hcm, hcp, hI2, hb2, hk2⟩ := KEY.out W1 xs hxl hI hn0
      rw [htl]
      have HO := Lib.hid hk2; clear hk2
      have hne : ¬ cap = tb.length := by omega
      unfold maxLen at hcm
      go_wp2_with fail
      all_goals (go_ret2; exact ⟨rfl, hI2, (hbel0.trans hbel).trans hb2, HO.out _ (hk0.trans hk3)⟩)
    · go_wp2_with fail
      refine (Tryz.Buffer_grow_at 104 R B b 1033 n (Lib.byteCells tb) _ h' hnr hBw' H1.out hlim2).mono ?_
      rintro e W1 ⟨rfl, xs, hxl, hI, hbel, hk3, hg⟩
      obtain ⟨g, cap, W2, d0, hnc, hcm, hcp, hI2, hb2, hk2⟩ := KEY.out W1 xs hxl hI hn0
      rw [htl]
      have HO := Lib.hid hk2; clear hk2
      have hne : ¬ cap = tb.length := by omega
      unfold maxLen at hcm
      go_wp2_with fail
      all_goals (go_ret2; exact ⟨rfl, hI2, (hbel0.trans hbel).trans hb2, HO.out _ (hk0.trans hk3)⟩)

end Go.Proofs.YtblpcpkkjbkakaaGreatDoor
