/- Lemmas towards the seat's laws: 6 texts joined. -/
import Derived.Test.YtblpcpkkjbkakaaGreatDoorY20
import Derived.Laws.EntriesVeiled
/- The parser's making. -/
namespace Go.Proofs.YtblpcpkkjbkakaaGreatDoor
open Go Go.RowKit
set_option linter.unusedVariables false
set_option linter.unusedSimpArgs false
def X (w : World) (e : Ending) (w' : World) : Prop := False

theorem newReader_any (s : ByteArray) (w : World) : Calls Tryz.prog 65 #[.string s] w (fun e w' => e = .returned (.pointer (some ⟨w.heap.size, 0, none⟩)) ∧ w' = w.alloc (.cells #[.string s, .int .i64 0, .int .i64 (-1)] 154)) := by
  go_enter Tryz.func65, Tryz.ntmps65
  go_wp2_with fail
  go_ret
  exact ⟨rfl, rfl⟩

/-- A block of n cells, R says which. -/
def Blk (w : World) (b T : Nat) (R : Nat → Option Value) (n : Nat) : Prop := ∃ cs, w.heap[b]? = some (.cells cs T (0, 0)) ∧ (cs.size = n ∧ ∀ i v, R i = some v → v.oneCell' = true) ∧ ∀ i, cs[i]? = R i
theorem Blk.set {w : World} {b T : Nat} {R : Nat → Option Value} {n : Nat} (h : Blk w b T R n) (i : Nat) (hi : i < n) (v : Value) (h1 : v.oneCell' = true) : Blk (w.setCell ⟨b, i, none⟩ v) b T (upd R i v) n := by
  obtain ⟨cs, hh, ⟨h2, ho⟩, h3⟩ := h
  refine ⟨_, Lib.heap_setCell_same hh v, ⟨by simp [h2], fun j x hx => ?_⟩, fun j => ?_⟩
  · unfold upd at hx
    split at hx
    · rw [← Option.some.inj hx]; exact h1
    · exact ho j x hx
  · rw [Array.getElem?_setIfInBounds]
    unfold upd
    by_cases hj : j = i
    · subst hj; simp [h2, hi]
    · rw [if_neg (fun e => hj e.symm), if_neg hj]; exact h3 j
theorem Blk.cell {w : World} {b T : Nat} {R : Nat → Option Value} {n : Nat} (h : Blk w b T R n) (i : Nat) : w.cell? ⟨b, i, none⟩ = R i := by
  obtain ⟨cs, h1, h2, h3⟩ := h
  rw [Lib.cell_of_heap h1]; exact h3 i
theorem Blk.frozen {w : World} {b T : Nat} {R : Nat → Option Value} {n : Nat} (h : Blk w b T R n) (i : Nat) : w.frozen? ⟨b, i, none⟩ = false := by
  obtain ⟨cs, h1, h2, h3⟩ := h
  exact Lib.frozen_of_heap h1 i
theorem Blk.isSome {w : World} {b T : Nat} {R : Nat → Option Value} {n : Nat} (h : Blk w b T R n) {i : Nat} (hi : i < n) : ∃ x, R i = some x := by
  obtain ⟨cs, h1, ⟨h2, _⟩, h3⟩ := h
  exact ⟨cs[i], by rw [← h3 i]; simp [h2, hi]⟩
theorem Blk.all {w : World} {b T : Nat} {R : Nat → Option Value} {n : Nat} (h : Blk w b T R n) : ∃ cs, w.heap[b]? = some (.cells cs T (0, 0)) ∧ cs.size = n ∧ cs.all (·.oneCell') = true ∧ ∀ i, cs[i]? = R i := by
  obtain ⟨cs, h1, ⟨h2, ho⟩, h3⟩ := h
  refine ⟨cs, h1, h2, ?_, h3⟩
  rw [Array.all_eq_true_iff_forall_mem]
  intro v hv
  obtain ⟨i, hi, rfl⟩ := Array.getElem_of_mem hv
  exact ho i _ (by rw [← h3 i]; simp [hi])

/-- A part laid into a struct's zero value. -/
theorem fold_set (l : List Value) : ∀ (k : Nat) (z : Array Value), k + l.length ≤ z.size → ((l.zipIdx k).foldl (fun cs x => cs.setIfInBounds (0 + x.2) x.1) z).size = z.size ∧
    ∀ i, ((l.zipIdx k).foldl (fun cs x => cs.setIfInBounds (0 + x.2) x.1) z)[i]? = if k ≤ i ∧ i < k + l.length then l[i - k]? else z[i]? := by
  induction l with
  | nil =>
    intro k z h
    refine ⟨rfl, fun i => ?_⟩
    rw [if_neg (by simp only [List.length_nil]; omega)]; rfl
  | cons v l ih =>
    intro k z h
    simp only [List.length_cons] at h
    obtain ⟨h1, h2⟩ := ih (k + 1) (z.setIfInBounds (0 + k) v) (by simp; omega)
    simp only [List.zipIdx_cons, List.foldl_cons]
    refine ⟨by rw [h1]; simp, fun i => ?_⟩
    rw [h2 i]
    simp only [List.length_cons]
    by_cases hi : i = k
    · subst hi
      rw [if_neg (by omega), if_pos (by omega)]
      simp [show i < z.size by omega]
    · by_cases hc : k + 1 ≤ i ∧ i < k + 1 + l.length
      · rw [if_pos hc, if_pos (by omega)]
        rw [show i - k = (i - (k + 1)) + 1 by omega]; rfl
      · rw [if_neg hc, if_neg (by omega), Array.getElem?_setIfInBounds_ne (by omega)]
theorem fill_one (place : Nat → Option (Nat × Nat)) (z cs : Array Value) (n : Nat) (hp : place 0 = some (0, n)) (hc : cs.size = n) (hz : n ≤ z.size) :
    ∃ r, Instr.fill place z [(0, .agg cs)] = some r ∧ r.size = z.size ∧ ∀ i, r[i]? = if i < n then cs[i]? else z[i]? := by
  have hf := fold_set cs.toList 0 z (by simp; omega)
  refine ⟨(cs.toList.zipIdx 0).foldl (fun cs x => cs.setIfInBounds (0 + x.2) x.1) z, ?_, hf.1, ?_⟩
  · have hcond : (decide ((Value.agg cs).cells.size ≠ n) || decide (0 + (Value.agg cs).cells.size > z.size)) = false := by
      show (decide (cs.size ≠ n) || decide (0 + cs.size > z.size)) = false
      simp [hc]; omega
    unfold Instr.fill
    rw [hp]
    dsimp only
    rw [hcond]
    show some (Array.foldl _ z cs.zipIdx) = _
    rw [← Array.foldl_toList, Array.toList_zipIdx]
  · intro i
    rw [hf.2 i]
    simp [hc]

def initR (R : Nat → Option Value) (v : Value) : Nat → Option Value :=
  upd (upd (upd (upd (upd (upd (upd (upd (upd (upd (upd (upd (upd (upd (upd (upd R 0 v) 1 (.int .u8 128)) 1026 (.int .i64 0)) 1027 (.int .i64 0)) 1028 (.int .i64 0)) 1029 (.int .i64 1)) 1030 (.int .i64 0)) 1031 (.int .i64 0)) 1032 (.int .i64 0)) 1036 (.int .i64 (-1))) 1038 (.int .i32 (-2))) 1039 .nilFunc) 1040 (.int .i64 0)) 1041 (.int .u64 1012)) 1042 (.int .u64 4294977024)) 1046 (.int .i64 0)

def InitPost (b : Nat) (R : Nat → Option Value) (v : Value) (w : World) (e : Ending) (w' : World) : Prop :=
  (∃ x, e = .returned x) ∧ Blk w' b 99 (initR R v) 1048 ∧ (∀ k, k ≠ b → w'.heap[k]? = w.heap[k]?) ∧ w'.heap.size = w.heap.size ∧ Below 0 w w'

set_option maxRecDepth 100000 in
set_option maxHeartbeats 4000000 in
theorem init_any (b rb : Nat) (R : Nat → Option Value) (w : World) (hb : Blk w b 99 R 1048) : Calls Tryz.prog 64 #[.pointer (some ⟨b, 0, none⟩), .iface 130 (.pointer (some ⟨rb, 0, none⟩))] w (InitPost b R (.iface 130 (.pointer (some ⟨rb, 0, none⟩))) w) := by
  have hk : ∀ k, k ≠ b → w.heap[k]? = w.heap[k]? := fun _ _ => rfl
  have hsz : w.heap.size = w.heap.size := rfl
  have HB0 := Lib.hid hb
  have HK0 := Lib.hid hk
  have HZ0 := Lib.hid hsz
  have HW0 := Lib.hid (Below.refl 0 w)
  clear hk hsz
  obtain ⟨y0, hy⟩ := HB0.out.isSome (i := 0) (by omega)
  have c := (HB0.out.cell 0).trans hy
  have f := HB0.out.frozen 0
  clear hy hb
  go_enter Tryz.func64, Tryz.ntmps64
  go_upto_region 2 with fail
  obtain ⟨W1, hW⟩ : ∃ W', W' = w.setCell ⟨b, 0, none⟩ (.iface 130 (.pointer (some ⟨rb, 0, none⟩))) := ⟨_, rfl⟩
  rw [← hW]
  have HB1 := Lib.hid (show Blk W1 b 99 (upd _ 0 (.iface 130 (.pointer (some ⟨rb, 0, none⟩)))) 1048 by rw [hW]; exact HB0.out.set 0 (by omega) _ rfl)
  have HK1 := Lib.hid (show ∀ k, k ≠ b → W1.heap[k]? = w.heap[k]? by rw [hW]; intro k hk; rw [Below.heap_setCell _ _ _ _ hk])
  have HZ1 := Lib.hid (show W1.heap.size = w.heap.size by rw [hW]; simp only [World.setCell, Array.size_modify])
  have HW1 := Lib.hid (show Below 0 w W1 by rw [hW]; exact HW0.out.setCell (p := ⟨b, 0, none⟩) (Nat.zero_le _) _)
  clear hW HB0 HK0 HZ0 HW0 c f
  obtain ⟨y1, hy⟩ := HB1.out.isSome (i := 1) (by omega)
  have c := (HB1.out.cell 1).trans hy
  have f := HB1.out.frozen 1
  clear hy
  go_upto_region 3 with fail
  obtain ⟨W2, hW⟩ : ∃ W', W' = W1.setCell ⟨b, 1, none⟩ (.int .u8 128) := ⟨_, rfl⟩
  rw [← hW]
  have HB2 := Lib.hid (show Blk W2 b 99 (upd _ 1 (.int .u8 128)) 1048 by rw [hW]; exact HB1.out.set 1 (by omega) _ rfl)
  have HK2 := Lib.hid (show ∀ k, k ≠ b → W2.heap[k]? = w.heap[k]? by rw [hW]; intro k hk; rw [Below.heap_setCell _ _ _ _ hk]; exact HK1.out k hk)
  have HZ2 := Lib.hid (show W2.heap.size = w.heap.size by rw [hW]; simp only [World.setCell, Array.size_modify]; exact HZ1.out)
  have HW2 := Lib.hid (show Below 0 w W2 by rw [hW]; exact HW1.out.setCell (p := ⟨b, 1, none⟩) (Nat.zero_le _) _)
  clear hW HB1 HK1 HZ1 HW1 c f W1
  obtain ⟨y2, hy⟩ := HB2.out.isSome (i := 1026) (by omega)
  have c := (HB2.out.cell 1026).trans hy
  have f := HB2.out.frozen 1026
  clear hy
  go_upto_region 4 with fail
  obtain ⟨W3, hW⟩ : ∃ W', W' = W2.setCell ⟨b, 1026, none⟩ (.int .i64 0) := ⟨_, rfl⟩
  rw [← hW]
  have HB3 := Lib.hid (show Blk W3 b 99 (upd _ 1026 (.int .i64 0)) 1048 by rw [hW]; exact HB2.out.set 1026 (by omega) _ rfl)
  have HK3 := Lib.hid (show ∀ k, k ≠ b → W3.heap[k]? = w.heap[k]? by rw [hW]; intro k hk; rw [Below.heap_setCell _ _ _ _ hk]; exact HK2.out k hk)
  have HZ3 := Lib.hid (show W3.heap.size = w.heap.size by rw [hW]; simp only [World.setCell, Array.size_modify]; exact HZ2.out)
  have HW3 := Lib.hid (show Below 0 w W3 by rw [hW]; exact HW2.out.setCell (p := ⟨b, 1026, none⟩) (Nat.zero_le _) _)
  clear hW HB2 HK2 HZ2 HW2 c f W2
  obtain ⟨y3, hy⟩ := HB3.out.isSome (i := 1027) (by omega)
  have c := (HB3.out.cell 1027).trans hy
  have f := HB3.out.frozen 1027
  clear hy
  go_upto_region 5 with fail
  obtain ⟨W4, hW⟩ : ∃ W', W' = W3.setCell ⟨b, 1027, none⟩ (.int .i64 0) := ⟨_, rfl⟩
  rw [← hW]
  have HB4 := Lib.hid (show Blk W4 b 99 (upd _ 1027 (.int .i64 0)) 1048 by rw [hW]; exact HB3.out.set 1027 (by omega) _ rfl)
  have HK4 := Lib.hid (show ∀ k, k ≠ b → W4.heap[k]? = w.heap[k]? by rw [hW]; intro k hk; rw [Below.heap_setCell _ _ _ _ hk]; exact HK3.out k hk)
  have HZ4 := Lib.hid (show W4.heap.size = w.heap.size by rw [hW]; simp only [World.setCell, Array.size_modify]; exact HZ3.out)
  have HW4 := Lib.hid (show Below 0 w W4 by rw [hW]; exact HW3.out.setCell (p := ⟨b, 1027, none⟩) (Nat.zero_le _) _)
  clear hW HB3 HK3 HZ3 HW3 c f W3
  obtain ⟨y4, hy⟩ := HB4.out.isSome (i := 1028) (by omega)
  have c := (HB4.out.cell 1028).trans hy
  have f := HB4.out.frozen 1028
  clear hy
  go_upto_region 6 with fail
  obtain ⟨W5, hW⟩ : ∃ W', W' = W4.setCell ⟨b, 1028, none⟩ (.int .i64 0) := ⟨_, rfl⟩
  rw [← hW]
  have HB5 := Lib.hid (show Blk W5 b 99 (upd _ 1028 (.int .i64 0)) 1048 by rw [hW]; exact HB4.out.set 1028 (by omega) _ rfl)
  have HK5 := Lib.hid (show ∀ k, k ≠ b → W5.heap[k]? = w.heap[k]? by rw [hW]; intro k hk; rw [Below.heap_setCell _ _ _ _ hk]; exact HK4.out k hk)
  have HZ5 := Lib.hid (show W5.heap.size = w.heap.size by rw [hW]; simp only [World.setCell, Array.size_modify]; exact HZ4.out)
  have HW5 := Lib.hid (show Below 0 w W5 by rw [hW]; exact HW4.out.setCell (p := ⟨b, 1028, none⟩) (Nat.zero_le _) _)
  clear hW HB4 HK4 HZ4 HW4 c f W4
  obtain ⟨y5, hy⟩ := HB5.out.isSome (i := 1029) (by omega)
  have c := (HB5.out.cell 1029).trans hy
  have f := HB5.out.frozen 1029
  clear hy
  go_upto_region 7 with fail
  obtain ⟨W6, hW⟩ : ∃ W', W' = W5.setCell ⟨b, 1029, none⟩ (.int .i64 1) := ⟨_, rfl⟩
  rw [← hW]
  have HB6 := Lib.hid (show Blk W6 b 99 (upd _ 1029 (.int .i64 1)) 1048 by rw [hW]; exact HB5.out.set 1029 (by omega) _ rfl)
  have HK6 := Lib.hid (show ∀ k, k ≠ b → W6.heap[k]? = w.heap[k]? by rw [hW]; intro k hk; rw [Below.heap_setCell _ _ _ _ hk]; exact HK5.out k hk)
  have HZ6 := Lib.hid (show W6.heap.size = w.heap.size by rw [hW]; simp only [World.setCell, Array.size_modify]; exact HZ5.out)
  have HW6 := Lib.hid (show Below 0 w W6 by rw [hW]; exact HW5.out.setCell (p := ⟨b, 1029, none⟩) (Nat.zero_le _) _)
  clear hW HB5 HK5 HZ5 HW5 c f W5
  obtain ⟨y6, hy⟩ := HB6.out.isSome (i := 1030) (by omega)
  have c := (HB6.out.cell 1030).trans hy
  have f := HB6.out.frozen 1030
  clear hy
  go_upto_region 8 with fail
  obtain ⟨W7, hW⟩ : ∃ W', W' = W6.setCell ⟨b, 1030, none⟩ (.int .i64 0) := ⟨_, rfl⟩
  rw [← hW]
  have HB7 := Lib.hid (show Blk W7 b 99 (upd _ 1030 (.int .i64 0)) 1048 by rw [hW]; exact HB6.out.set 1030 (by omega) _ rfl)
  have HK7 := Lib.hid (show ∀ k, k ≠ b → W7.heap[k]? = w.heap[k]? by rw [hW]; intro k hk; rw [Below.heap_setCell _ _ _ _ hk]; exact HK6.out k hk)
  have HZ7 := Lib.hid (show W7.heap.size = w.heap.size by rw [hW]; simp only [World.setCell, Array.size_modify]; exact HZ6.out)
  have HW7 := Lib.hid (show Below 0 w W7 by rw [hW]; exact HW6.out.setCell (p := ⟨b, 1030, none⟩) (Nat.zero_le _) _)
  clear hW HB6 HK6 HZ6 HW6 c f W6
  obtain ⟨y7, hy⟩ := HB7.out.isSome (i := 1031) (by omega)
  have c := (HB7.out.cell 1031).trans hy
  have f := HB7.out.frozen 1031
  clear hy
  go_upto_region 9 with fail
  obtain ⟨W8, hW⟩ : ∃ W', W' = W7.setCell ⟨b, 1031, none⟩ (.int .i64 0) := ⟨_, rfl⟩
  rw [← hW]
  have HB8 := Lib.hid (show Blk W8 b 99 (upd _ 1031 (.int .i64 0)) 1048 by rw [hW]; exact HB7.out.set 1031 (by omega) _ rfl)
  have HK8 := Lib.hid (show ∀ k, k ≠ b → W8.heap[k]? = w.heap[k]? by rw [hW]; intro k hk; rw [Below.heap_setCell _ _ _ _ hk]; exact HK7.out k hk)
  have HZ8 := Lib.hid (show W8.heap.size = w.heap.size by rw [hW]; simp only [World.setCell, Array.size_modify]; exact HZ7.out)
  have HW8 := Lib.hid (show Below 0 w W8 by rw [hW]; exact HW7.out.setCell (p := ⟨b, 1031, none⟩) (Nat.zero_le _) _)
  clear hW HB7 HK7 HZ7 HW7 c f W7
  obtain ⟨y8, hy⟩ := HB8.out.isSome (i := 1032) (by omega)
  have c := (HB8.out.cell 1032).trans hy
  have f := HB8.out.frozen 1032
  clear hy
  go_upto_region 10 with fail
  obtain ⟨W9, hW⟩ : ∃ W', W' = W8.setCell ⟨b, 1032, none⟩ (.int .i64 0) := ⟨_, rfl⟩
  rw [← hW]
  have HB9 := Lib.hid (show Blk W9 b 99 (upd _ 1032 (.int .i64 0)) 1048 by rw [hW]; exact HB8.out.set 1032 (by omega) _ rfl)
  have HK9 := Lib.hid (show ∀ k, k ≠ b → W9.heap[k]? = w.heap[k]? by rw [hW]; intro k hk; rw [Below.heap_setCell _ _ _ _ hk]; exact HK8.out k hk)
  have HZ9 := Lib.hid (show W9.heap.size = w.heap.size by rw [hW]; simp only [World.setCell, Array.size_modify]; exact HZ8.out)
  have HW9 := Lib.hid (show Below 0 w W9 by rw [hW]; exact HW8.out.setCell (p := ⟨b, 1032, none⟩) (Nat.zero_le _) _)
  clear hW HB8 HK8 HZ8 HW8 c f W8
  obtain ⟨y9, hy⟩ := HB9.out.isSome (i := 1036) (by omega)
  have c := (HB9.out.cell 1036).trans hy
  have f := HB9.out.frozen 1036
  clear hy
  go_upto_region 11 with fail
  obtain ⟨W10, hW⟩ : ∃ W', W' = W9.setCell ⟨b, 1036, none⟩ (.int .i64 (-1)) := ⟨_, rfl⟩
  rw [← hW]
  have HB10 := Lib.hid (show Blk W10 b 99 (upd _ 1036 (.int .i64 (-1))) 1048 by rw [hW]; exact HB9.out.set 1036 (by omega) _ rfl)
  have HK10 := Lib.hid (show ∀ k, k ≠ b → W10.heap[k]? = w.heap[k]? by rw [hW]; intro k hk; rw [Below.heap_setCell _ _ _ _ hk]; exact HK9.out k hk)
  have HZ10 := Lib.hid (show W10.heap.size = w.heap.size by rw [hW]; simp only [World.setCell, Array.size_modify]; exact HZ9.out)
  have HW10 := Lib.hid (show Below 0 w W10 by rw [hW]; exact HW9.out.setCell (p := ⟨b, 1036, none⟩) (Nat.zero_le _) _)
  clear hW HB9 HK9 HZ9 HW9 c f W9
  obtain ⟨y10, hy⟩ := HB10.out.isSome (i := 1038) (by omega)
  have c := (HB10.out.cell 1038).trans hy
  have f := HB10.out.frozen 1038
  clear hy
  go_upto_region 12 with fail
  obtain ⟨W11, hW⟩ : ∃ W', W' = W10.setCell ⟨b, 1038, none⟩ (.int .i32 (-2)) := ⟨_, rfl⟩
  rw [← hW]
  have HB11 := Lib.hid (show Blk W11 b 99 (upd _ 1038 (.int .i32 (-2))) 1048 by rw [hW]; exact HB10.out.set 1038 (by omega) _ rfl)
  have HK11 := Lib.hid (show ∀ k, k ≠ b → W11.heap[k]? = w.heap[k]? by rw [hW]; intro k hk; rw [Below.heap_setCell _ _ _ _ hk]; exact HK10.out k hk)
  have HZ11 := Lib.hid (show W11.heap.size = w.heap.size by rw [hW]; simp only [World.setCell, Array.size_modify]; exact HZ10.out)
  have HW11 := Lib.hid (show Below 0 w W11 by rw [hW]; exact HW10.out.setCell (p := ⟨b, 1038, none⟩) (Nat.zero_le _) _)
  clear hW HB10 HK10 HZ10 HW10 c f W10
  obtain ⟨y11, hy⟩ := HB11.out.isSome (i := 1039) (by omega)
  have c := (HB11.out.cell 1039).trans hy
  have f := HB11.out.frozen 1039
  clear hy
  go_upto_region 13 with fail
  obtain ⟨W12, hW⟩ : ∃ W', W' = W11.setCell ⟨b, 1039, none⟩ .nilFunc := ⟨_, rfl⟩
  rw [← hW]
  have HB12 := Lib.hid (show Blk W12 b 99 (upd _ 1039 .nilFunc) 1048 by rw [hW]; exact HB11.out.set 1039 (by omega) _ rfl)
  have HK12 := Lib.hid (show ∀ k, k ≠ b → W12.heap[k]? = w.heap[k]? by rw [hW]; intro k hk; rw [Below.heap_setCell _ _ _ _ hk]; exact HK11.out k hk)
  have HZ12 := Lib.hid (show W12.heap.size = w.heap.size by rw [hW]; simp only [World.setCell, Array.size_modify]; exact HZ11.out)
  have HW12 := Lib.hid (show Below 0 w W12 by rw [hW]; exact HW11.out.setCell (p := ⟨b, 1039, none⟩) (Nat.zero_le _) _)
  clear hW HB11 HK11 HZ11 HW11 c f W11
  obtain ⟨y12, hy⟩ := HB12.out.isSome (i := 1040) (by omega)
  have c := (HB12.out.cell 1040).trans hy
  have f := HB12.out.frozen 1040
  clear hy
  go_upto_region 14 with fail
  obtain ⟨W13, hW⟩ : ∃ W', W' = W12.setCell ⟨b, 1040, none⟩ (.int .i64 0) := ⟨_, rfl⟩
  rw [← hW]
  have HB13 := Lib.hid (show Blk W13 b 99 (upd _ 1040 (.int .i64 0)) 1048 by rw [hW]; exact HB12.out.set 1040 (by omega) _ rfl)
  have HK13 := Lib.hid (show ∀ k, k ≠ b → W13.heap[k]? = w.heap[k]? by rw [hW]; intro k hk; rw [Below.heap_setCell _ _ _ _ hk]; exact HK12.out k hk)
  have HZ13 := Lib.hid (show W13.heap.size = w.heap.size by rw [hW]; simp only [World.setCell, Array.size_modify]; exact HZ12.out)
  have HW13 := Lib.hid (show Below 0 w W13 by rw [hW]; exact HW12.out.setCell (p := ⟨b, 1040, none⟩) (Nat.zero_le _) _)
  clear hW HB12 HK12 HZ12 HW12 c f W12
  obtain ⟨y13, hy⟩ := HB13.out.isSome (i := 1041) (by omega)
  have c := (HB13.out.cell 1041).trans hy
  have f := HB13.out.frozen 1041
  clear hy
  go_upto_region 15 with fail
  obtain ⟨W14, hW⟩ : ∃ W', W' = W13.setCell ⟨b, 1041, none⟩ (.int .u64 1012) := ⟨_, rfl⟩
  rw [← hW]
  have HB14 := Lib.hid (show Blk W14 b 99 (upd _ 1041 (.int .u64 1012)) 1048 by rw [hW]; exact HB13.out.set 1041 (by omega) _ rfl)
  have HK14 := Lib.hid (show ∀ k, k ≠ b → W14.heap[k]? = w.heap[k]? by rw [hW]; intro k hk; rw [Below.heap_setCell _ _ _ _ hk]; exact HK13.out k hk)
  have HZ14 := Lib.hid (show W14.heap.size = w.heap.size by rw [hW]; simp only [World.setCell, Array.size_modify]; exact HZ13.out)
  have HW14 := Lib.hid (show Below 0 w W14 by rw [hW]; exact HW13.out.setCell (p := ⟨b, 1041, none⟩) (Nat.zero_le _) _)
  clear hW HB13 HK13 HZ13 HW13 c f W13
  obtain ⟨y14, hy⟩ := HB14.out.isSome (i := 1042) (by omega)
  have c := (HB14.out.cell 1042).trans hy
  have f := HB14.out.frozen 1042
  clear hy
  go_upto_region 16 with fail
  obtain ⟨W15, hW⟩ : ∃ W', W' = W14.setCell ⟨b, 1042, none⟩ (.int .u64 4294977024) := ⟨_, rfl⟩
  rw [← hW]
  have HB15 := Lib.hid (show Blk W15 b 99 (upd _ 1042 (.int .u64 4294977024)) 1048 by rw [hW]; exact HB14.out.set 1042 (by omega) _ rfl)
  have HK15 := Lib.hid (show ∀ k, k ≠ b → W15.heap[k]? = w.heap[k]? by rw [hW]; intro k hk; rw [Below.heap_setCell _ _ _ _ hk]; exact HK14.out k hk)
  have HZ15 := Lib.hid (show W15.heap.size = w.heap.size by rw [hW]; simp only [World.setCell, Array.size_modify]; exact HZ14.out)
  have HW15 := Lib.hid (show Below 0 w W15 by rw [hW]; exact HW14.out.setCell (p := ⟨b, 1042, none⟩) (Nat.zero_le _) _)
  clear hW HB14 HK14 HZ14 HW14 c f W14
  obtain ⟨y15, hy⟩ := HB15.out.isSome (i := 1046) (by omega)
  have c := (HB15.out.cell 1046).trans hy
  have f := HB15.out.frozen 1046
  clear hy
  go_upto_region 17 with fail
  obtain ⟨W16, hW⟩ : ∃ W', W' = W15.setCell ⟨b, 1046, none⟩ (.int .i64 0) := ⟨_, rfl⟩
  rw [← hW]
  have HB16 := Lib.hid (show Blk W16 b 99 (upd _ 1046 (.int .i64 0)) 1048 by rw [hW]; exact HB15.out.set 1046 (by omega) _ rfl)
  have HK16 := Lib.hid (show ∀ k, k ≠ b → W16.heap[k]? = w.heap[k]? by rw [hW]; intro k hk; rw [Below.heap_setCell _ _ _ _ hk]; exact HK15.out k hk)
  have HZ16 := Lib.hid (show W16.heap.size = w.heap.size by rw [hW]; simp only [World.setCell, Array.size_modify]; exact HZ15.out)
  have HW16 := Lib.hid (show Below 0 w W16 by rw [hW]; exact HW15.out.setCell (p := ⟨b, 1046, none⟩) (Nat.zero_le _) _)
  clear hW HB15 HK15 HZ15 HW15 c f W15
  go_wp2_with fail
  go_ret
  exact ⟨⟨_, rfl⟩, HB16.out, HK16.out, HZ16.out, HW16.out⟩

theorem blk_alloc (w : World) (cs : Array Value) (T n : Nat) (h : cs.size = n) (h1 : cs.all (·.oneCell') = true) : Blk (w.alloc (.cells cs T)) w.heap.size T (fun i => cs[i]?) n :=
  ⟨cs, Go.Proofs.YtblpcpkkjbkakaaGreatDoor.heap_alloc_new _ _, ⟨h, fun i v hv => (Array.all_eq_true_iff_forall_mem.1 h1) v (Array.mem_of_getElem? hv)⟩, fun _ => rfl⟩
theorem Blk.of_heap {w w' : World} {b T : Nat} {R : Nat → Option Value} {n : Nat} (h : Blk w b T R n) (e : w'.heap[b]? = w.heap[b]?) : Blk w' b T R n := by
  obtain ⟨cs, h1, h2⟩ := h
  exact ⟨cs, e.trans h1, h2⟩
theorem size_alloc (w : World) (o : Obj) : (w.alloc o).heap.size = w.heap.size + 1 := by show (w.heap.push o).size = _; simp

theorem built101 (cs : Array Value) : Tryz.prog.built 101 [(0, .agg cs)] = Instr.fill (fun i => #[(0, 1048), (1048, 1)][i]?) Tryz.zeroCells101 [(0, .agg cs)] := by kernel_rfl
theorem built104 (cs : Array Value) : Tryz.prog.built 104 [(0, .agg cs)] = Instr.fill (fun i => #[(0, 1049)][i]?) Tryz.zeroCells104 [(0, .agg cs)] := by kernel_rfl
theorem zall99 : Tryz.zeroCells99.all (·.oneCell') = true := by
  have h : Tryz.zeroCells99.toList.all (·.oneCell') = true := by kernel_rfl
  rw [← Array.all_toList]; exact h
theorem zall101 : Tryz.zeroCells101.all (·.oneCell') = true := by
  have h : Tryz.zeroCells101.toList.all (·.oneCell') = true := by kernel_rfl
  rw [← Array.all_toList]; exact h
theorem zall104 : Tryz.zeroCells104.all (·.oneCell') = true := by
  have h : Tryz.zeroCells104.toList.all (·.oneCell') = true := by kernel_rfl
  rw [← Array.all_toList]; exact h
theorem zsize104 : Tryz.zeroCells104.size = 1049 := by kernel_rfl
theorem zsize99 : Tryz.zeroCells99.size = 1048 := by kernel_rfl
theorem zsize101 : Tryz.zeroCells101.size = 1049 := by kernel_rfl

theorem wpList_build_one {P : Program} {ops : Array Oper} {rest : List Oper} {o : Oper} {a : Act} {w : World} {Q : Exit → Act → World → Prop} (hg : o.guard = none) (t : TypeId) (x : Operand) (ho : o.op = .build t #[(0, x)])
    (v : Value) (hx : a.eval x = v) (cells : Array Value) (hc : P.built t [(0, v)] = some cells)
    (h : wpList P ops Q rest (a.put o.dst (.agg cells)) w) : wpList P ops Q (o :: rest) a w := by
  have hm : ((#[(0, x)] : Array (Nat × Operand)).map fun (i, x) => (i, a.eval x)).toList = [(0, v)] := by simp [hx]
  exact wpList_build hg t #[(0, x)] ho (by rw [hm, hc]; rfl) (by rw [hm, hc]; exact h)
theorem all_one {cs : Array Value} (h : cs.all (·.oneCell') = true) (i : Nat) (v : Value) (hv : cs[i]? = some v) : v.oneCell' = true := (Array.all_eq_true_iff_forall_mem.1 h) v (Array.mem_of_getElem? hv)

/-- The lexer's cells at its making: the reader's block rb. -/
noncomputable def lexR (rb : Nat) : Nat → Option Value := fun i => if i < 1048 then upd (initR (fun i => Tryz.zeroCells99[i]?) (.iface 130 (.pointer (some ⟨rb, 0, none⟩)))) 1041 (.int .u64 28) i else Tryz.zeroCells101[i]?

def LexPost (s : ByteArray) (w : World) (e : Ending) (w' : World) : Prop :=
  ∃ r : Array Value, e = .returned (.agg r) ∧ r.size = 1049 ∧ r.all (·.oneCell') = true ∧ (∀ i, r[i]? = lexR (w.heap.size + 2) i) ∧
    w'.heap[w.heap.size + 2]? = some (Obj.cells #[Value.string s, Value.int IntKind.i64 0, Value.int IntKind.i64 (-1)] 154) ∧ w'.heap.size = w.heap.size + 3 ∧ (∀ k, k < w.heap.size → w'.heap[k]? = w.heap[k]?) ∧ Below 0 w w'

set_option maxRecDepth 100000 in
set_option maxHeartbeats 4000000 in
theorem lexer_any (s : ByteArray) (w : World) : Calls Tryz.prog 41 #[.string s] w (LexPost s w) := by
  obtain ⟨m, hm⟩ : ∃ m, m = w.heap.size := ⟨_, rfl⟩
  go_enter Tryz.func41, Tryz.ntmps41
  go_upto_region 2 with fail
  obtain ⟨W2, hW2⟩ : ∃ W2, W2 = (w.alloc (Obj.cells Tryz.zeroCells101 101)).alloc (Obj.cells Tryz.zeroCells99 99) := ⟨_, rfl⟩
  simp only [size_alloc, ← hm]
  rw [← hW2]
  have hz2 : W2.heap.size = m + 2 := by rw [hW2, size_alloc, size_alloc, hm]
  have hl2 : Blk W2 m 101 (fun i => Tryz.zeroCells101[i]?) 1049 := by
    rw [hW2, hm]
    exact (blk_alloc w _ _ _ zsize101 zall101).of_heap (Below.heap_alloc _ _ _ (by rw [size_alloc]; omega))
  have hs2 : Blk W2 (m + 1) 99 (fun i => Tryz.zeroCells99[i]?) 1048 := by
    rw [hW2, hm, ← size_alloc]
    exact blk_alloc _ _ _ _ zsize99 zall99
  have hk2 : ∀ k, k < m → W2.heap[k]? = w.heap[k]? := fun k hk => by
    rw [hW2, Below.heap_alloc _ _ _ (by rw [size_alloc]; omega), Below.heap_alloc _ _ _ (by omega)]
  have hb2 : Below 0 w W2 := by rw [hW2]; exact (((Below.refl 0 w).alloc (Nat.zero_le _) _).alloc (Nat.zero_le _) _)
  clear hW2
  have HB2 := Lib.hid hb2; clear hb2
  have HL2 := Lib.hid hl2; clear hl2
  have HS2 := Lib.hid hs2; clear hs2
  have HK2 := Lib.hid hk2; clear hk2
  have HM := Lib.hid hm; clear hm
  go_wp2_with (go_at_call 65; refine (newReader_any _ _).mono ?_; rintro e w' ⟨rfl, rfl⟩)
  obtain ⟨W3, hW3⟩ : ∃ W3, W3 = W2.alloc (Obj.cells #[Value.string s, Value.int IntKind.i64 0, Value.int IntKind.i64 (-1)] 154) := ⟨_, rfl⟩
  rw [← hW3]
  have hl3 : Blk W3 m 101 (fun i => Tryz.zeroCells101[i]?) 1049 := by rw [hW3]; exact HL2.out.of_heap (Below.heap_alloc _ _ _ (by omega))
  have hs3 : Blk W3 (m + 1) 99 (fun i => Tryz.zeroCells99[i]?) 1048 := by rw [hW3]; exact HS2.out.of_heap (Below.heap_alloc _ _ _ (by omega))
  have hr3 : W3.heap[m + 2]? = some (Obj.cells #[Value.string s, Value.int IntKind.i64 0, Value.int IntKind.i64 (-1)] 154) := by rw [hW3, ← hz2]; exact heap_alloc_new _ _
  have hk3 : ∀ k, k < m → W3.heap[k]? = w.heap[k]? := fun k hk => by rw [hW3, Below.heap_alloc _ _ _ (by omega)]; exact HK2.out k hk
  have hz3 : W3.heap.size = m + 3 := by rw [hW3, size_alloc, hz2]
  have HB3 := Lib.hid (show Below 0 w W3 by rw [hW3]; exact HB2.out.alloc (Nat.zero_le _) _)
  clear hW3 HB2 HL2 HS2 HK2 hz2 W2
  have HL3 := Lib.hid hl3; clear hl3
  have HS3 := Lib.hid hs3; clear hs3
  have HR3 := Lib.hid hr3; clear hr3
  have HK3 := Lib.hid hk3; clear hk3
  have HZ3 := Lib.hid hz3; clear hz3
  refine (init_any (m + 1) (m + 2) _ W3 HS3.out).mono ?_
  rintro e W4 ⟨⟨x, rfl⟩, hs4, hk4, hz4, hb4⟩
  have HB4 := Lib.hid (HB3.out.trans hb4); clear hb4 HB3
  have c41 : W4.cell? ⟨m + 1, 1041, none⟩ = some (.int .u64 1012) := by rw [hs4.cell]; simp [initR, upd]
  have f41 := hs4.frozen 1041
  have hl4 : Blk W4 m 101 (fun i => Tryz.zeroCells101[i]?) 1049 := HL3.out.of_heap (hk4 _ (by omega))
  have HS4 := Lib.hid hs4; clear hs4
  have HK4 := Lib.hid hk4; clear hk4
  have HZ4 := Lib.hid hz4; clear hz4
  have HL4 := Lib.hid hl4; clear hl4
  go_upto_region 4 with fail
  obtain ⟨W5, hW5⟩ : ∃ W5, W5 = W4.setCell ⟨m + 1, 1041, none⟩ (.int .u64 28) := ⟨_, rfl⟩
  rw [← hW5]
  have hs5 := HS4.out.set 1041 (by omega) (.int .u64 28) rfl
  rw [← hW5] at hs5
  have hl5 : Blk W5 m 101 (fun i => Tryz.zeroCells101[i]?) 1049 := by rw [hW5]; exact HL4.out.of_heap (Below.heap_setCell _ _ _ _ (by show m ≠ m + 1; omega))
  have hk5 : ∀ k, k ≠ m + 1 → W5.heap[k]? = W3.heap[k]? := fun k hk => by rw [hW5, Below.heap_setCell _ _ _ _ hk]; exact HK4.out k hk
  have hz5 : W5.heap.size = m + 3 := by rw [hW5]; simp only [World.setCell, Array.size_modify]; exact HZ4.out.trans HZ3.out
  have HB5 := Lib.hid (show Below 0 w W5 by rw [hW5]; exact HB4.out.setCell (p := ⟨m + 1, 1041, none⟩) (Nat.zero_le _) _)
  clear hW5 HB4 HS4 HL4 HK4 HZ4 c41 f41
  obtain ⟨cs, g1, g2, g3, g4⟩ := hs5.all
  obtain ⟨lc, l1, l2, l3, l4⟩ := hl5.all
  obtain ⟨r, r1, r2, r3⟩ := fill_one (fun i => #[(0, 1048), (1048, 1)][i]?) Tryz.zeroCells101 cs 1048 rfl g2 (by rw [zsize101]; omega)
  have hbd := fun W => run_build (P := Tryz.prog) W 101 #[(0, .agg cs)] r ((built101 cs).trans r1)
  have HK5 := Lib.hid hk5; clear hk5
  have HZ5 := Lib.hid hz5; clear hz5
  have G := Lib.hid (And.intro g1 (And.intro g2 (And.intro g3 g4)))
  have L := Lib.hid (And.intro l1 (And.intro l2 (And.intro l3 l4)))
  have RR := Lib.hid (And.intro r1 (And.intro r2 r3))
  clear g3 g4 l1 l2 l3 l4 r1 r2 r3 hs5 hl5
  go_wp2_with fail
  refine wp_load_row 99 (Operand.tmp 3) rfl (m + 1) rfl 99 cs (0, 0) _ g1 Tryz.underlying99 rfl (by rw [g2]; kernel_rfl) ?_
  go_step
  obtain ⟨r1, r2, r3⟩ := RR.out
  refine wpList_build_one rfl 101 (Operand.tmp 9) rfl (.agg cs) rfl r ((built101 cs).trans r1) ?_
  obtain ⟨l1, l2, l3, l4⟩ := L.out
  have hrs : r.size = 1049 := by rw [r2, zsize101]
  have hra : r.all (·.oneCell') = true := by
    rw [Array.all_eq_true_iff_forall_mem]
    intro v hv
    obtain ⟨i, hi, rfl⟩ := Array.getElem_of_mem hv
    have h3 := r3 i
    rw [Array.getElem?_eq_getElem hi] at h3
    split at h3
    · exact all_one G.out.2.2.1 i _ h3.symm
    · exact all_one zall101 i _ h3.symm
  refine wpList_store_row rfl 101 (Operand.tmp 2) (Operand.tmp 10) rfl m r rfl rfl 101 lc l1 (by rw [hrs]; kernel_rfl) (by rw [l2, hrs]) hra ?_
  obtain ⟨W6, hW6⟩ : ∃ W6, W6 = W5.setRow m r := ⟨_, rfl⟩
  rw [← hW6]
  have hw6 : W6.heap[m]? = some (.cells r 101 (0, 0)) := by rw [hW6]; exact setRow_heap W5 m lc r 101 _ l1
  have hk6 : ∀ k, k ≠ m → W6.heap[k]? = W5.heap[k]? := fun k hk => by rw [hW6]; unfold World.setRow; rw [Array.getElem?_modify, if_neg (fun e => hk e.symm)]
  have hz6 : W6.heap.size = m + 3 := by rw [hW6, size_setRow]; exact HZ5.out
  have hm := HM.out
  have hb6 : Below 0 w W6 := by rw [hW6]; exact ⟨HB5.out.os, HB5.out.tape, HB5.out.output, by rw [size_setRow]; exact HB5.out.size, fun k hk => absurd hk (by omega)⟩
  clear hW6
  have hkk : ∀ k, k < m → W6.heap[k]? = w.heap[k]? := fun k hk => by rw [hk6 k (by omega), HK5.out k (by omega)]; exact HK3.out k hk
  have hrr : W6.heap[m + 2]? = some (Obj.cells #[Value.string s, Value.int IntKind.i64 0, Value.int IntKind.i64 (-1)] 154) := by rw [hk6 _ (by omega), HK5.out _ (by omega)]; exact HR3.out
  have hri : ∀ i, r[i]? = lexR (m + 2) i := fun i => by
    rw [r3 i]
    unfold lexR
    split
    · exact G.out.2.2.2 i
    · rfl
  have HP := Lib.hid (show LexPost s w (.returned (.agg r)) W6 from ⟨r, rfl, hrs, hra, by rw [← hm]; exact hri, by rw [← hm]; exact hrr, by rw [← hm]; exact hz6, by rw [← hm]; exact hkk, hb6⟩)
  clear hb6 hkk hrr hri hk6 hz6 hm G L RR r1 r2 r3 l1 l2 l3 l4 g1 g2 hbd
  go_wp2_with fail
  refine bodyPost_ret_by (results_cell_row rfl _ _ m 101 r (0, 0) _ rfl hw6 Tryz.underlying101 rfl (by rw [hrs]; kernel_rfl)) rfl ?_
  exact HP.out
end Go.Proofs.YtblpcpkkjbkakaaGreatDoor
/- The decimals of the slow reading: their state in memory; trim. -/
namespace Go.Proofs.YtblpcpkkjbkakaaGreatDoor
open Go Go.RowKit
set_option linter.unusedVariables false
set_option linter.unusedSimpArgs false

/-- The decimal in block b, cell by cell. -/
def Raw (w : World) (b : Nat) (R : Nat → Option Value) (nd dp : Int) (ng tr : Bool) : Prop :=
  Blk w b 208 R 804 ∧ (∀ i, i < 800 → ∃ x : Nat, x < 256 ∧ R i = some (.int .u8 (x : Int))) ∧ R 800 = some (.int .i64 nd) ∧ R 801 = some (.int .i64 dp) ∧ R 802 = some (.bool ng) ∧ R 803 = some (.bool tr)
theorem Raw.byte {w : World} {b : Nat} {R : Nat → Option Value} {nd dp : Int} {ng tr : Bool} (h : Raw w b R nd dp ng tr) (i : Nat) (hi : i < 800) (x : Nat) (hx : x < 256) :
    Raw (w.setCell ⟨b, i, none⟩ (.int .u8 (x : Int))) b (upd R i (.int .u8 (x : Int))) nd dp ng tr := by
  obtain ⟨hb, h1, h2, h3, h4, h5⟩ := h
  refine ⟨hb.set i (by omega) _ rfl, fun j hj => ?_, ?_, ?_, ?_, ?_⟩
  · by_cases e : j = i
    · subst e; exact ⟨x, hx, upd_at _ _ _⟩
    · rw [upd_ne _ _ _ _ e]; exact h1 j hj
  all_goals (rw [upd_ne _ _ _ _ (by omega)]; assumption)
theorem Raw.num {w : World} {b : Nat} {R : Nat → Option Value} {nd dp : Int} {ng tr : Bool} (h : Raw w b R nd dp ng tr) (x : Int) :
    Raw (w.setCell ⟨b, 800, none⟩ (.int .i64 x)) b (upd R 800 (.int .i64 x)) x dp ng tr := by
  obtain ⟨hb, h1, h2, h3, h4, h5⟩ := h
  refine ⟨hb.set 800 (by omega) _ rfl, fun j hj => by rw [upd_ne _ _ _ _ (by omega)]; exact h1 j hj, upd_at _ _ _, ?_, ?_, ?_⟩
  all_goals (rw [upd_ne _ _ _ _ (by omega)]; assumption)
theorem Raw.point {w : World} {b : Nat} {R : Nat → Option Value} {nd dp : Int} {ng tr : Bool} (h : Raw w b R nd dp ng tr) (x : Int) :
    Raw (w.setCell ⟨b, 801, none⟩ (.int .i64 x)) b (upd R 801 (.int .i64 x)) nd x ng tr := by
  obtain ⟨hb, h1, h2, h3, h4, h5⟩ := h
  refine ⟨hb.set 801 (by omega) _ rfl, fun j hj => by rw [upd_ne _ _ _ _ (by omega)]; exact h1 j hj, ?_, upd_at _ _ _, ?_, ?_⟩
  all_goals (rw [upd_ne _ _ _ _ (by omega)]; assumption)
theorem Raw.sign {w : World} {b : Nat} {R : Nat → Option Value} {nd dp : Int} {ng tr : Bool} (h : Raw w b R nd dp ng tr) (x : Bool) :
    Raw (w.setCell ⟨b, 802, none⟩ (.bool x)) b (upd R 802 (.bool x)) nd dp x tr := by
  obtain ⟨hb, h1, h2, h3, h4, h5⟩ := h
  refine ⟨hb.set 802 (by omega) _ rfl, fun j hj => by rw [upd_ne _ _ _ _ (by omega)]; exact h1 j hj, ?_, ?_, upd_at _ _ _, ?_⟩
  all_goals (rw [upd_ne _ _ _ _ (by omega)]; assumption)
theorem Raw.rest {w : World} {b : Nat} {R : Nat → Option Value} {nd dp : Int} {ng tr : Bool} (h : Raw w b R nd dp ng tr) (x : Bool) :
    Raw (w.setCell ⟨b, 803, none⟩ (.bool x)) b (upd R 803 (.bool x)) nd dp ng x := by
  obtain ⟨hb, h1, h2, h3, h4, h5⟩ := h
  refine ⟨hb.set 803 (by omega) _ rfl, fun j hj => by rw [upd_ne _ _ _ _ (by omega)]; exact h1 j hj, ?_, ?_, ?_, upd_at _ _ _⟩
  all_goals (rw [upd_ne _ _ _ _ (by omega)]; assumption)
theorem Raw.cells {w : World} {b : Nat} {R : Nat → Option Value} {nd dp : Int} {ng tr : Bool} (h : Raw w b R nd dp ng tr) :
    w.cell? ⟨b, 800, none⟩ = some (.int .i64 nd) ∧ w.cell? ⟨b, 801, none⟩ = some (.int .i64 dp) ∧ w.cell? ⟨b, 802, none⟩ = some (.bool ng) ∧ w.cell? ⟨b, 803, none⟩ = some (.bool tr) ∧
    (∀ i, w.frozen? ⟨b, i, none⟩ = false) ∧ ∀ i, w.cell? ⟨b, i, none⟩ = R i := by
  obtain ⟨hb, h1, h2, h3, h4, h5⟩ := h
  exact ⟨(hb.cell _).trans h2, (hb.cell _).trans h3, (hb.cell _).trans h4, (hb.cell _).trans h5, hb.frozen, hb.cell⟩
theorem Raw.drew {w : World} {b : Nat} {R : Nat → Option Value} {nd dp : Int} {ng tr : Bool} (h : Raw w b R nd dp ng tr) (n : Nat) : Raw (w.drewN n) b R nd dp ng tr := h

/-- The decimal in block b: nd digits g, the point's place, its sign, whether digits were cut. -/
def Dec (w : World) (b nd : Nat) (g : Nat → Nat) (dp : Int) (ng tr : Bool) : Prop :=
  nd ≤ 800 ∧ (∀ i, i < nd → g i < 10) ∧ ∃ R, Raw w b R (nd : Int) dp ng tr ∧ ∀ i, i < nd → R i = some (.int .u8 ((48 + g i : Nat) : Int))
theorem Dec.drew {w : World} {b nd : Nat} {g : Nat → Nat} {dp : Int} {ng tr : Bool} (h : Dec w b nd g dp ng tr) (n : Nat) : Dec (w.drewN n) b nd g dp ng tr := h
/-- Only block b has turned. -/
def DFr (b : Nat) (w w' : World) : Prop := (∀ k, k ≠ b → w'.heap[k]? = w.heap[k]?) ∧ Below 0 w w' ∧ w'.heap.size = w.heap.size
theorem DFr.refl (b : Nat) (w : World) : DFr b w w := ⟨fun _ _ => rfl, Below.refl _ _, rfl⟩
theorem DFr.trans {b : Nat} {w w1 w2 : World} (h : DFr b w w1) (k : DFr b w1 w2) : DFr b w w2 := ⟨fun i hi => (k.1 i hi).trans (h.1 i hi), h.2.1.trans k.2.1, k.2.2.trans h.2.2⟩
theorem DFr.set {b : Nat} {w w1 : World} (h : DFr b w w1) (i : Nat) (v : Value) : DFr b w (w1.setCell ⟨b, i, none⟩ v) :=
  ⟨fun k hk => (Below.heap_setCell _ _ _ _ hk).trans (h.1 k hk), h.2.1.setCell (p := ⟨b, i, none⟩) (Nat.zero_le _) v, by simp only [World.setCell, Array.size_modify]; exact h.2.2⟩
theorem DFr.drewN {b : Nat} {w w1 : World} (h : DFr b w w1) (n : Nat) : DFr b w (w1.drewN n) := ⟨h.1, below_drewN h.2.1 n, h.2.2⟩

/-- How many digits stay when the zeros at the end go. -/
def trimN (g : Nat → Nat) : Nat → Nat
  | 0 => 0
  | n + 1 => if g n = 0 then trimN g n else n + 1
theorem trimN_le (g : Nat → Nat) : ∀ n, trimN g n ≤ n
  | 0 => Nat.le_refl _
  | n + 1 => by unfold trimN; split; exact Nat.le_succ_of_le (trimN_le g n); exact Nat.le_refl _
theorem trimN_pos (g : Nat → Nat) (n : Nat) (hn : 0 < n) (h0 : g 0 ≠ 0) : 0 < trimN g n := by
  induction n with
  | zero => omega
  | succ n ih =>
    unfold trimN
    split
    · rename_i h
      cases n with
      | zero => exact absurd h h0
      | succ m => exact ih (by omega)
    · omega
theorem trimN_zeros (g : Nat → Nat) (a : Nat) (n : Nat) (h : ∀ i, a ≤ i → i < a + n → g i = 0) : trimN g (a + n) = trimN g a := by
  induction n with
  | zero => rfl
  | succ n ih =>
    show (if g (a + n) = 0 then trimN g (a + n) else _) = _
    rw [if_pos (h (a + n) (by omega) (by omega))]
    exact ih (fun i h1 h2 => h i h1 (by omega))

theorem Dec.cells {w : World} {b nd : Nat} {g : Nat → Nat} {dp : Int} {ng tr : Bool} (h : Dec w b nd g dp ng tr) :
    w.cell? ⟨b, 800, none⟩ = some (.int .i64 (nd : Int)) ∧ w.cell? ⟨b, 801, none⟩ = some (.int .i64 dp) ∧ w.cell? ⟨b, 802, none⟩ = some (.bool ng) ∧ w.cell? ⟨b, 803, none⟩ = some (.bool tr) ∧
    (∀ i, i < nd → w.cell? ⟨b, i, none⟩ = some (.int .u8 ((48 + g i : Nat) : Int))) ∧ (∀ i, w.frozen? ⟨b, i, none⟩ = false) := by
  obtain ⟨h0, h1, R, hr, h2⟩ := h
  obtain ⟨a, b, c, d, e, f⟩ := hr.cells
  exact ⟨a, b, c, d, fun i hi => (f i).trans (h2 i hi), e⟩
theorem Dec.cut {w : World} {b nd : Nat} {g : Nat → Nat} {dp : Int} {ng tr : Bool} (h : Dec w b nd g dp ng tr) (k : Nat) (hk : k ≤ nd) : Dec (w.setCell ⟨b, 800, none⟩ (.int .i64 (k : Int))) b k g dp ng tr := by
  obtain ⟨h0, h1, R, hr, h2⟩ := h
  exact ⟨by omega, fun i hi => h1 i (by omega), _, hr.num (k : Int), fun i hi => by rw [upd_ne _ _ _ _ (by omega)]; exact h2 i (by omega)⟩
theorem Dec.point {w : World} {b nd : Nat} {g : Nat → Nat} {dp : Int} {ng tr : Bool} (h : Dec w b nd g dp ng tr) (dp' : Int) : Dec (w.setCell ⟨b, 801, none⟩ (.int .i64 dp')) b nd g dp' ng tr := by
  obtain ⟨h0, h1, R, hr, h2⟩ := h
  exact ⟨h0, h1, _, hr.point dp', fun i hi => by rw [upd_ne _ _ _ _ (by omega)]; exact h2 i (by omega)⟩

def TrimPost (b nd : Nat) (g : Nat → Nat) (dp : Int) (ng tr : Bool) (w : World) (e : Ending) (w' : World) : Prop :=
  e = .returned (.tuple #[]) ∧ Dec w' b (trimN g nd) g (if trimN g nd = 0 then 0 else dp) ng tr ∧ DFr b w w'

set_option maxRecDepth 100000 in
set_option maxHeartbeats 1000000 in
theorem trim_any (b nd : Nat) (g : Nat → Nat) (dp : Int) (ng tr : Bool) (w : World) (h : Dec w b nd g dp ng tr) : Calls Tryz.prog 175 #[.pointer (some ⟨b, 0, none⟩)] w (TrimPost b nd g dp ng tr w) := by
  have h8 := h.2.1
  have hl := h.1
  have HD := Lib.hid h8; clear h8
  have H := Lib.hid h; clear h
  go_enter Tryz.func175, Tryz.ntmps175
  go_wp2_with fail
  go_loopg [19] nd (fun k c wr => k ≤ nd ∧ RowKit.Hid (Dec wr b k g dp ng tr) ∧ RowKit.Hid (trimN g nd = trimN g k) ∧ RowKit.Hid (DFr b w wr))
  case atStart => exact ⟨Nat.le_refl _, Lib.hid H.out, Lib.hid rfl, Lib.hid (DFr.refl _ _)⟩
  case round =>
    obtain ⟨hk, k1, k2, k3⟩ := hrel
    obtain ⟨c0, c1, -, -, cd, cf⟩ := k1.out.cells
    have f0 := cf 800
    have f1 := cf 801
    by_cases hz : ∃ i, gk = i + 1 ∧ g i = 0
    · obtain ⟨i, rfl, hd0⟩ := hz
      have ci := cd i (by omega)
      have hst : trimN g (i + 1) = trimN g i := by
        show (if g i = 0 then trimN g i else i + 1) = _
        rw [if_pos hd0]
      have hk2 := Lib.hid (k2.out.trans hst)
      rw [hd0] at ci
      have hw : IntKind.i64.wrap (((i + 1 : Nat) : Int) - 1) = (i : Int) := by rw [IntKind.wrap_i64]; omega
      have hp : ((0 : Int) < ((i + 1 : Nat) : Int)) = True := eq_true (by omega)
      clear cd cf c1 f1 hd0 hst k2
      have K1 := k1; have K2 := hk2; have K3 := k3; clear k1 hk2 k3
      go_wp2_with fail
      go_quiet (fail)
      go_wp2_with fail
      go_roundg i
      case rel =>
        exact ⟨by omega, Lib.hid (K1.out.cut i (by omega)), K2, Lib.hid ((K3.out.drewN _).set _ _)⟩
      case measure => omega
    · have hst : trimN g gk = gk := by
        cases gk with
        | zero => rfl
        | succ i =>
          show (if g i = 0 then trimN g i else i + 1) = _
          rw [if_neg (fun h => hz ⟨i, rfl, h⟩)]
      have hk2 := k2.out
      rw [hst] at hk2
      have hfin : ∀ W, Dec W b gk g (if gk = 0 then 0 else dp) ng tr → DFr b w W → TrimPost b nd g dp ng tr w (.returned (.tuple #[])) W := fun W h1 h2 => by
        unfold TrimPost
        rw [hk2]
        exact ⟨rfl, h1, h2⟩
      have HFN := Lib.hid hfin; clear hfin hk2 hst
      have K1 := k1; have K3 := k3; clear k1 k2 k3
      by_cases h0 : gk = 0
      · subst h0
        clear cd cf
        go_wp2_with fail
        go_quiet (fail)
        go_wp2_with fail
        go_end0
        exact HFN.out _ (by simp only [if_true]; exact Dec.point (K1.out.drew nq) 0) ((K3.out.drewN nq).set _ _)
      · obtain ⟨i, rfl⟩ : ∃ i, gk = i + 1 := ⟨gk - 1, by omega⟩
        have ci := cd i (by omega)
        have hne : g i ≠ 0 := fun h => hz ⟨i, rfl, h⟩
        have hw : IntKind.i64.wrap (((i + 1 : Nat) : Int) - 1) = (i : Int) := by rw [IntKind.wrap_i64]; omega
        have hp : ((0 : Int) < ((i + 1 : Nat) : Int)) = True := eq_true (by omega)
        obtain ⟨X, hX⟩ : ∃ X : Int, X = ((48 + g i : Nat) : Int) := ⟨_, rfl⟩
        rw [← hX] at ci
        have hXn : (X == 48) = false := beq_false_of_ne (by omega)
        clear cd cf hX hne hz
        go_wp2_with fail
        go_quiet (fail)
        go_wp2_with fail
        go_end0
        exact HFN.out _ (by rw [if_neg (by omega)]; exact K1.out.drew nq) (K3.out.drewN nq)

end Go.Proofs.YtblpcpkkjbkakaaGreatDoor
/- shouldRoundUp. -/
namespace Go.Proofs.YtblpcpkkjbkakaaGreatDoor
open Go Go.RowKit
set_option linter.unusedVariables false
set_option linter.unusedSimpArgs false

/-- Whether a decimal that is cut at place n is rounded up. -/
def rup (nd : Nat) (g : Nat → Nat) (tr : Bool) (n : Int) : Bool :=
  if n < 0 ∨ (nd : Int) ≤ n then false
  else if g n.toNat = 5 ∧ n.toNat + 1 = nd then (tr || (decide (0 < n.toNat) && g (n.toNat - 1) % 2 != 0))
  else decide (5 ≤ g n.toNat)

set_option maxRecDepth 100000 in
set_option maxHeartbeats 1000000 in
theorem roundUp_any (b nd : Nat) (g : Nat → Nat) (dp : Int) (ng tr : Bool) (n : Int) (w : World) (h : Dec w b nd g dp ng tr) :
    Calls Tryz.prog 169 #[.pointer (some ⟨b, 0, none⟩), .int .i64 n] w (fun e w' => e = .returned (.bool (rup nd g tr n)) ∧ w' = w) := by
  have h8 := h.2.1
  have hl := h.1
  obtain ⟨c0, c1, -, c3, cd, cf⟩ := h.cells
  clear h
  by_cases h0 : n < 0
  · have hr : rup nd g tr n = false := by unfold rup; rw [if_pos (.inl h0)]
    rw [hr]
    clear cd h8 hr
    go_enter Tryz.func169, Tryz.ntmps169
    go_wp2_with fail
    go_ret
    exact ⟨rfl, rfl⟩
  · obtain ⟨k, rfl⟩ : ∃ k : Nat, n = k := ⟨n.toNat, by omega⟩
    by_cases h1 : nd ≤ k
    · have hr : rup nd g tr k = false := by unfold rup; rw [if_pos (.inr (by omega))]
      rw [hr]
      clear cd h8 hr
      have h1' : (nd : Int) ≤ (k : Int) := by omega
      go_enter Tryz.func169, Tryz.ntmps169
      go_wp2_with fail
      go_ret
      exact ⟨rfl, rfl⟩
    · have hk : k < nd := by omega
      have ck := cd k hk
      have hdk := h8 k hk
      have hr : rup nd g tr k = if g k = 5 ∧ k + 1 = nd then (tr || (decide (0 < k) && g (k - 1) % 2 != 0)) else decide (5 ≤ g k) := by
        unfold rup
        rw [if_neg (by omega), Int.toNat_natCast]
      obtain ⟨d, hd⟩ : ∃ d, d = g k := ⟨_, rfl⟩
      rw [← hd] at ck hdk hr
      have hk8 : k < 800 := by omega
      obtain ⟨N, hN⟩ : ∃ N : Int, N = (nd : Int) := ⟨_, rfl⟩
      rw [← hN] at c0
      have q2 : (N ≤ (k : Int)) = False := eq_false (by omega)
      have q3 : IntKind.i64.wrap ((k : Int) + 1) = (k : Int) + 1 := by rw [IntKind.wrap_i64]; omega
      obtain ⟨D, hD⟩ : ∃ D : Int, D = ((48 + d : Nat) : Int) := ⟨_, rfl⟩
      rw [← hD] at ck
      by_cases h5 : d = 5 ∧ k + 1 = nd
      · obtain ⟨h5d, hkl⟩ := h5
        rw [if_pos ⟨h5d, hkl⟩] at hr
        have e1 : (D == 53) = true := by rw [beq_iff_eq]; omega
        have e2 : ((k : Int) + 1 == N) = true := by rw [beq_iff_eq]; omega
        cases tr with
        | true =>
          rw [hr]
          have HH := Lib.hid (And.intro hd (And.intro hN (And.intro hD (And.intro h5d hkl))))
          clear cd h8 hr hd hN hD h5d hkl h0 h1 hk hl hdk
          go_enter Tryz.func169, Tryz.ntmps169
          go_wp2_with fail
          go_ret
          exact ⟨rfl, rfl⟩
        | false =>
          by_cases hk0 : k = 0
          · subst hk0
            have e3 : ((1 : Int) == N) = true := by rw [beq_iff_eq]; omega
            have e4 : (N ≤ 0) = False := eq_false (by omega)
            rw [hr]
            have HH := Lib.hid (And.intro hd (And.intro hN (And.intro hD (And.intro h5d hkl))))
            clear cd h8 hr hd hN hD h5d hkl h0 h1 hk hl hdk
            go_enter Tryz.func169, Tryz.ntmps169
            go_wp2_with fail
            go_ret
            exact ⟨rfl, rfl⟩
          · obtain ⟨j, hj⟩ : ∃ j, k = j + 1 := ⟨k - 1, by omega⟩
            have cj := cd j (by omega)
            have hdj := h8 j (by omega)
            obtain ⟨y, hy⟩ : ∃ y, y = g j := ⟨_, rfl⟩
            rw [← hy] at cj hdj
            have hgj : g (k - 1) = y := by rw [hy, hj]; rfl
            rw [hgj] at hr
            have q4 : IntKind.i64.wrap ((k : Int) - 1) = (j : Int) := by rw [IntKind.wrap_i64]; omega
            have q5 : 0 < k := by omega
            have hj8 : j < 800 := by omega
            have hfin : Value.bool ((48 + (y : Int) - 48) % 2 != 0) = Value.bool (rup nd g false k) := by
              rw [hr]
              congr 1
              rw [Bool.false_or, decide_eq_true (show 0 < k by omega), Bool.true_and, Bool.eq_iff_iff, bne_iff_ne, bne_iff_ne]
              omega
            obtain ⟨B, hB⟩ : ∃ B, B = rup nd g false k := ⟨_, rfl⟩
            rw [← hB] at hfin
            rw [← hB]
            have HF := Lib.hid hfin
            have HH := Lib.hid (And.intro hd (And.intro hN (And.intro hD (And.intro h5d (And.intro hkl (And.intro hj (And.intro hy (And.intro hr hB))))))))
            clear cd h8 hr hd hN hD h5d hkl h0 h1 hk hl hdk hj hgj hy hfin hk0 hB
            go_enter Tryz.func169, Tryz.ntmps169
            go_wp2_with fail
            go_ret
            exact ⟨congrArg Ending.returned HF.out, rfl⟩
      · rw [if_neg h5] at hr
        have hfin : Value.bool (decide (53 ≤ D)) = Value.bool (rup nd g tr k) := by
          rw [hr]
          congr 1
          rw [decide_eq_decide]
          omega
        obtain ⟨B, hB⟩ : ∃ B, B = rup nd g tr k := ⟨_, rfl⟩
        rw [← hB] at hfin
        rw [← hB]
        have HF := Lib.hid hfin
        by_cases h5d : d = 5
        · have e1 : (D == 53) = true := by rw [beq_iff_eq]; omega
          have e2 : ((k : Int) + 1 == N) = false := beq_false_of_ne (by omega)
          have HH := Lib.hid (And.intro hd (And.intro hN (And.intro hD (And.intro h5d h5))))
          clear cd h8 hr hd hN hD h5d h5 h0 h1 hk hl hdk hfin hB
          go_enter Tryz.func169, Tryz.ntmps169
          go_wp2_with fail
          go_ret
          exact ⟨congrArg Ending.returned HF.out, rfl⟩
        · have e1 : (D == 53) = false := beq_false_of_ne (by omega)
          have HH := Lib.hid (And.intro hd (And.intro hN (And.intro hD (And.intro h5d h5))))
          clear cd h8 hr hd hN hD h5d h5 h0 h1 hk hl hdk hfin hB
          go_enter Tryz.func169, Tryz.ntmps169
          go_wp2_with fail
          go_ret
          exact ⟨congrArg Ending.returned HF.out, rfl⟩

end Go.Proofs.YtblpcpkkjbkakaaGreatDoor
/- RoundedInteger. -/
namespace Go.Proofs.YtblpcpkkjbkakaaGreatDoor
open Go Go.RowKit
set_option linter.unusedVariables false
set_option linter.unusedSimpArgs false

/-- The number of the first i digits, as the code keeps it. -/
def riN (nd : Nat) (g : Nat → Nat) : Nat → Int
  | 0 => 0
  | i + 1 => if i < nd then IntKind.u64.wrap (IntKind.u64.wrap (riN nd g i * 10) + (g i : Int)) else IntKind.u64.wrap (riN nd g i * 10)
def riF (nd : Nat) (g : Nat → Nat) (dp : Int) (tr : Bool) : Int :=
  if 20 < dp then 18446744073709551615 else if rup nd g tr dp then IntKind.u64.wrap (riN nd g dp.toNat + 1) else riN nd g dp.toNat
theorem wrap_u64_in (x : Int) : 0 ≤ IntKind.u64.wrap x ∧ IntKind.u64.wrap x ≤ 18446744073709551615 := by rw [IntKind.wrap_u64]; omega
theorem riN_in (nd : Nat) (g : Nat → Nat) (i : Nat) : 0 ≤ riN nd g i ∧ riN nd g i ≤ 18446744073709551615 := by
  cases i with
  | zero => exact ⟨Int.le_refl 0, by show (0 : Int) ≤ _; decide⟩
  | succ i => unfold riN; split <;> exact wrap_u64_in _
theorem riF_in (nd : Nat) (g : Nat → Nat) (dp : Int) (tr : Bool) : 0 ≤ riF nd g dp tr ∧ riF nd g dp tr ≤ 18446744073709551615 := by
  unfold riF
  split
  · exact ⟨by decide, by decide⟩
  · split
    · exact wrap_u64_in _
    · exact riN_in _ _ _

set_option maxRecDepth 100000 in
set_option maxHeartbeats 1000000 in
theorem rounded_any (b nd : Nat) (g : Nat → Nat) (dp : Int) (ng tr : Bool) (w : World) (h : Dec w b nd g dp ng tr) (hd1 : -1000000 ≤ dp) :
    Calls Tryz.prog 161 #[.pointer (some ⟨b, 0, none⟩)] w (fun e w' => e = .returned (.int .u64 (riF nd g dp tr)) ∧ w' = w) := by
  have h8 := h.2.1
  have hl := h.1
  obtain ⟨c0, c1, -, -, cd, cf⟩ := h.cells
  have HC := Lib.hid cd; clear cd
  have H8 := Lib.hid h8; clear h8
  have H := Lib.hid h; clear h
  by_cases hbig : 20 < dp
  · have hr : riF nd g dp tr = 18446744073709551615 := by unfold riF; rw [if_pos hbig]
    rw [hr]
    clear hr
    go_enter Tryz.func161, Tryz.ntmps161
    go_wp2_with fail
    go_ret
    exact ⟨rfl, rfl⟩
  · obtain ⟨B, hB⟩ : ∃ B, B = rup nd g tr dp := ⟨_, rfl⟩
    have hr : riF nd g dp tr = if B then IntKind.u64.wrap (riN nd g dp.toNat + 1) else riN nd g dp.toNat := by unfold riF; rw [if_neg hbig, hB]
    have hcall := roundUp_any b nd g dp ng tr dp w H.out
    rw [← hB] at hcall
    have HR := Lib.hid hcall; clear hcall hB
    have HV := Lib.hid hr; clear hr
    go_enter Tryz.func161, Tryz.ntmps161
    go_upto_block 0 with fail
    go_cut [3, 4] (fun i n wx => ∃ k : Nat, (k : Int) ≤ max dp 0 ∧ (dp ≤ k ∨ nd ≤ k) ∧ i = .int .i64 k ∧ n = .int .u64 (riN nd g k) ∧ wx = w)
    case first =>
      go_wp2_with fail
      go_loop [3, 4] (fun i n => ∃ k : Nat, (k : Int) ≤ max dp 0 ∧ k ≤ nd ∧ i = .int .i64 k ∧ n = .int .u64 (riN nd g k)) (fun i _ => nd - (intOf i).toNat)
      case atStart => exact ⟨0, by omega, by omega, rfl, rfl⟩
      case round =>
        obtain ⟨k, hk1, hk2, rfl, rfl⟩ := hrel
        obtain ⟨V, hV⟩ : ∃ V, V = riN nd g k := ⟨_, rfl⟩
        rw [← hV]
        by_cases g1 : (k : Int) < dp
        · by_cases g2 : k < nd
          · have ck := HC.out k g2
            have hd := H8.out k g2
            have hnx : riN nd g (k + 1) = IntKind.u64.wrap (IntKind.u64.wrap (V * 10) + (g k : Int)) := by
              rw [hV]; show (if k < nd then _ else _) = _; rw [if_pos g2]
            obtain ⟨y, hy⟩ : ∃ y, y = g k := ⟨_, rfl⟩
            rw [← hy] at ck hd hnx
            have e6 : (48 + (y : Int) - 48) = (y : Int) := by omega
            have HN := Lib.hid hnx; clear hnx
            have HVV := Lib.hid hV; clear hV
            have HY := Lib.hid hy; clear hy
            have HE := Lib.hid e6; clear e6
            have hk8 : k < 800 := by omega
            go_wp2_with fail
            go_round
            case rel => exact ⟨k + 1, by omega, by omega, by go_num, by rw [HN.out]; simp [HE.out]⟩
            case measure => simp [intOf]; omega
          · have HVV := Lib.hid hV; clear hV
            go_wp2_with fail
            go_meet
            case rel => exact ⟨k, hk1, .inr (by omega), rfl, by rw [HVV.out], rfl⟩
        · have HVV := Lib.hid hV; clear hV
          go_wp2_with fail
          go_meet
          case rel => exact ⟨k, hk1, .inl (by omega), rfl, by rw [HVV.out], rfl⟩
    case rest =>
      obtain ⟨k0, hk1, hk2, rfl, rfl, rfl⟩ := hcut
      go_wp2_with fail
      go_loop [3, 4] (fun i n => ∃ k : Nat, (k : Int) ≤ max dp 0 ∧ (dp ≤ k ∨ nd ≤ k) ∧ i = .int .i64 k ∧ n = .int .u64 (riN nd g k)) (fun i _ => dp.toNat - (intOf i).toNat)
      case atStart => exact ⟨k0, hk1, hk2, rfl, rfl⟩
      case round =>
        clear hk1 hk2
        obtain ⟨k, hk1, hk2, rfl, rfl⟩ := hrel
        by_cases g1 : (k : Int) < dp
        · have hnx : riN nd g (k + 1) = IntKind.u64.wrap (riN nd g k * 10) := by
            show (if k < nd then _ else _) = _; rw [if_neg (by omega)]
          obtain ⟨V, hV⟩ : ∃ V, V = riN nd g k := ⟨_, rfl⟩
          rw [← hV] at hnx ⊢
          have HN := Lib.hid hnx; clear hnx
          have HVV := Lib.hid hV; clear hV
          go_wp2_with fail
          go_round
          case rel => exact ⟨k + 1, by omega, by omega, by go_num, by rw [HN.out]⟩
          case measure => simp [intOf]; omega
        · have hkk : dp.toNat = k := by omega
          have hv := HV.out
          rw [hkk] at hv
          obtain ⟨V, hVe⟩ : ∃ V, V = riN nd g k := ⟨_, rfl⟩
          rw [← hVe] at hv ⊢
          have HV2 := Lib.hid hv; clear hv HV hVe hkk
          go_wp2_with (go_at_call 169; refine HR.out.mono ?_; rintro e w' ⟨rfl, rfl⟩)
          all_goals go_ret
          all_goals (rename_i hb; exact ⟨by rw [HV2.out, hb]; rfl, rfl⟩)

end Go.Proofs.YtblpcpkkjbkakaaGreatDoor
/- prefixIsLessThan. -/
namespace Go.Proofs.YtblpcpkkjbkakaaGreatDoor
open Go Go.RowKit
set_option linter.unusedVariables false
set_option linter.unusedSimpArgs false

/-- A text's byte at a place. -/
def bat (s : ByteArray) (i : Nat) : Nat := (s.data.toList.getD i 0).toNat
/-- Whether the digits come ahead of the text, in the alphabet's order; m places are left from place i. -/
def plt (nd : Nat) (g : Nat → Nat) (s : ByteArray) : Nat → Nat → Bool
  | 0, _ => false
  | m + 1, i => if nd ≤ i then true else if 48 + g i = bat s i then plt nd g s m (i + 1) else decide (48 + g i < bat s i)

theorem bat_at (s : ByteArray) (k : Nat) (h : k < s.size) : bat s k = s[k].toNat := by
  unfold bat
  rw [List.getD_eq_getElem?_getD]
  have : s.data.toList[k]? = some s[k] := by
    rw [Array.getElem?_toList]
    exact Array.getElem?_eq_getElem (show k < s.data.size from h)
  rw [this]; rfl

set_option maxRecDepth 100000 in
set_option maxHeartbeats 1000000 in
theorem prefix_any (b nd : Nat) (g : Nat → Nat) (dp : Int) (ng tr : Bool) (c : Nat) (s : ByteArray) (w : World) (h : Dec w b nd g dp ng tr) (hs : s.size ≤ 1000) (hc : nd ≤ c) :
    Calls Tryz.prog 174 #[.slice (some ⟨b, 0, none⟩) nd c, .string s] w (fun e w' => e = .returned (.bool (plt nd g s s.size 0)) ∧ ∃ n, w' = w.drewN n) := by
  have h8 := h.2.1
  have hl := h.1
  obtain ⟨-, -, -, -, cd, cf⟩ := h.cells
  have HC := Lib.hid cd; clear cd
  have H8 := Lib.hid h8; clear h8
  clear h
  go_enter Tryz.func174, Tryz.ntmps174
  go_wp2_with fail
  go_loopw [5] (fun i wr => ∃ k : Nat, k ≤ s.size ∧ i = .int .i64 k ∧ RowKit.Hid (plt nd g s s.size 0 = plt nd g s (s.size - k) k) ∧ ∃ n, wr = w.drewN n) (fun i _ => s.size - (intOf i).toNat)
  case atStart => exact ⟨0, Nat.zero_le _, rfl, Lib.hid rfl, 0, rfl⟩
  case round =>
    obtain ⟨k, hk, rfl, hpl, n0, hwr⟩ := hrel
    have HW := Lib.hid hwr
    by_cases hks : k < s.size
    · obtain ⟨m, hm⟩ : ∃ m, s.size - k = m + 1 := ⟨s.size - k - 1, by omega⟩
      have hp2 := hpl.out
      rw [hm] at hp2
      have hp3 : plt nd g s (m + 1) k = if nd ≤ k then true else if 48 + g k = bat s k then plt nd g s m (k + 1) else decide (48 + g k < bat s k) := rfl
      rw [hp3, bat_at s k hks] at hp2
      clear hp3 hpl
      by_cases hkn : nd ≤ k
      · rw [if_pos hkn] at hp2
        have HP := Lib.hid hp2; clear hp2
        subst hwr
        go_wp2_with fail
        go_ret
        exact ⟨by rw [HP.out]; rfl, n0, rfl⟩
      · rw [if_neg hkn] at hp2
        have hkn2 : k < nd := by omega
        have ck := HC.out k hkn2
        have hd := H8.out k hkn2
        obtain ⟨D, hD⟩ : ∃ D : Int, D = ((48 + g k : Nat) : Int) := ⟨_, rfl⟩
        obtain ⟨Y, hY⟩ : ∃ Y : Int, Y = (s[k].toNat : Int) := ⟨_, rfl⟩
        have ck2 : wr.cell? ⟨b, k, none⟩ = some (.int .u8 D) := by rw [hwr, hD]; exact ck
        have hD2 : 0 ≤ D ∧ D < 256 := by omega
        by_cases he : 48 + g k = s[k].toNat
        · rw [if_pos he] at hp2
          have HP := Lib.hid hp2; clear hp2
          have e1 : (D != (s[k].toNat : Int)) = false := by rw [bne_eq_false_iff_eq]; omega
          have e2 : (D == (s[k].toNat : Int)) = true := by rw [beq_iff_eq]; omega
          have HE := Lib.hid he; clear he ck hwr
          have HDD := Lib.hid (And.intro hD hY); clear hD hY
          go_wp2_with fail
          go_quiet (fail)
          go_wp2_with fail
          go_roundw
          case rel => exact ⟨k + 1, by omega, by go_num, Lib.hid (by rw [HP.out, show s.size - (k + 1) = m by omega]), n0 + nq, by rw [HW.out]; exact World.drewN_drewN ..⟩
          case measure => simp [intOf]; omega
        · rw [if_neg he] at hp2
          have HP := Lib.hid hp2; clear hp2
          have e1 : (D != (s[k].toNat : Int)) = true := by rw [bne_iff_ne]; omega
          have e2 : (D == (s[k].toNat : Int)) = false := beq_false_of_ne (by omega)
          have hfin : Value.bool (decide (D < (s[k].toNat : Int))) = Value.bool (plt nd g s s.size 0) := by
            rw [HP.out]
            congr 1
            rw [decide_eq_decide]; omega
          have HF := Lib.hid hfin; clear hfin HP
          have HE := Lib.hid he; clear he ck hwr
          have HDD := Lib.hid (And.intro hD hY); clear hD hY
          go_wp2_with fail
          go_quiet (fail)
          go_wp2_with fail
          go_quiet (fail)
          go_wp2_with fail
          go_ret
          exact ⟨congrArg Ending.returned HF.out, _, by rw [HW.out, World.drewN_drewN, World.drewN_drewN]⟩
    · have hk2 : k = s.size := by omega
      have hp2 := hpl.out
      rw [show s.size - k = 0 by omega] at hp2
      have HP := Lib.hid hp2; clear hp2 hpl
      have HK := Lib.hid hk2; clear hk2
      subst hwr
      go_wp2_with fail
      go_ret
      exact ⟨by rw [HP.out]; rfl, n0, rfl⟩

end Go.Proofs.YtblpcpkkjbkakaaGreatDoor
/- The plain law of rightShift: the digits of a decimal divided by a power of two. -/
namespace Go.Proofs.YtblpcpkkjbkakaaGreatDoor
open Go Go.RowKit
set_option linter.unusedVariables false
set_option linter.unusedSimpArgs false

/-- The digit at a place; zeros follow. -/
def gz (nd : Nat) (g : Nat → Nat) (i : Nat) : Nat := if i < nd then g i else 0
/-- The number of the first r digits. -/
def pn (nd : Nat) (g : Nat → Nat) : Nat → Nat
  | 0 => 0
  | r + 1 => pn nd g r * 10 + gz nd g r
/-- The first place from r on at which p holds. -/
def rfind (p : Nat → Bool) : Nat → Nat → Nat
  | 0, r => r
  | f + 1, r => if p r then r else rfind p f (r + 1)
theorem rfind_spec (p : Nat → Bool) (R : Nat) (hR : p R = true) : ∀ (f r : Nat), (∀ j, r ≤ j → j < R → p j = false) → r ≤ R → R ≤ r + f → rfind p f r = R := by
  intro f
  induction f with
  | zero => intro r h h1 h2; show r = R; omega
  | succ f ih =>
    intro r h h1 h2
    show (if p r then r else rfind p f (r + 1)) = R
    by_cases hr : p r = true
    · rw [if_pos hr]
      apply Nat.le_antisymm h1
      apply Nat.le_of_not_lt
      intro hlt
      rw [h r (Nat.le_refl _) hlt] at hr
      exact absurd hr (by decide)
    · rw [if_neg hr]
      have hne : r ≠ R := fun e => hr (e ▸ hR)
      exact ih (r + 1) (fun j h3 h4 => h j (by omega) h4) (by omega) (by omega)
/-- How many digits are taken up ahead of the first digit put down. -/
def rsR (nd : Nat) (g : Nat → Nat) (k : Nat) : Nat := rfind (fun r => decide (2 ^ k ≤ pn nd g r)) 100 0
/-- What is left in hand ahead of the digit j. -/
def rsM (nd : Nat) (g : Nat → Nat) (k : Nat) : Nat → Nat
  | 0 => pn nd g (rsR nd g k)
  | j + 1 => rsM nd g k j % 2 ^ k * 10 + gz nd g (rsR nd g k + j)
/-- The digit j that is put down. -/
def rsD (nd : Nat) (g : Nat → Nat) (k j : Nat) : Nat := rsM nd g k j / 2 ^ k
/-- Whether something was cut, after j digits. -/
def rsT (nd : Nat) (g : Nat → Nat) (k : Nat) (tr : Bool) : Nat → Bool
  | 0 => tr
  | j + 1 => rsT nd g k tr j || (decide (800 ≤ j) && decide (0 < rsD nd g k j))
theorem rsT_small (nd : Nat) (g : Nat → Nat) (k : Nat) (tr : Bool) (j : Nat) (h : j ≤ 800) : rsT nd g k tr j = tr := by
  induction j with
  | zero => rfl
  | succ j ih =>
    show (rsT nd g k tr j || (decide (800 ≤ j) && decide (0 < rsD nd g k j))) = tr
    rw [ih (by omega), decide_eq_false (by omega : ¬ 800 ≤ j)]
    simp
theorem rsT_add (nd : Nat) (g : Nat → Nat) (k : Nat) (tr : Bool) (j : Nat) (h : ∀ i, j ≤ i → rsD nd g k i = 0) (n : Nat) : rsT nd g k tr (j + n) = rsT nd g k tr j := by
  induction n with
  | zero => rfl
  | succ n ih =>
    show (rsT nd g k tr (j + n) || (decide (800 ≤ j + n) && decide (0 < rsD nd g k (j + n)))) = _
    rw [ih, h (j + n) (by omega)]
    simp
theorem pn_ge (nd : Nat) (g : Nat → Nat) (h0 : 0 < nd) (hg : g 0 ≠ 0) (r : Nat) : 10 ^ r ≤ pn nd g (r + 1) := by
  induction r with
  | zero => show 1 ≤ 0 * 10 + gz nd g 0; unfold gz; rw [if_pos h0]; omega
  | succ r ih =>
    show 10 ^ (r + 1) ≤ pn nd g (r + 1) * 10 + gz nd g (r + 1)
    rw [Nat.pow_succ]; omega
theorem two_pow_lt (k : Nat) (hk : k ≤ 60) : 2 ^ k ≤ 1152921504606846976 := by
  have := Nat.pow_le_pow_right (by decide : 0 < 2) hk
  exact Nat.le_trans this (by decide)
theorem pn_short (nd : Nat) (g : Nat → Nat) (h0 : 0 < nd) (hg : g 0 ≠ 0) (k : Nat) (hk : k ≤ 60) (r : Nat) (h : pn nd g r < 2 ^ k) : r ≤ 19 := by
  cases r with
  | zero => omega
  | succ r =>
    have h1 := pn_ge nd g h0 hg r
    have h2 := two_pow_lt k hk
    apply Nat.le_of_not_lt
    intro hlt
    have h3 : 10 ^ 19 ≤ 10 ^ r := Nat.pow_le_pow_right (by decide) (by omega)
    have h4 : (10 : Nat) ^ 19 = 10000000000000000000 := by decide
    omega
theorem rsR_eq (nd : Nat) (g : Nat → Nat) (k R : Nat) (h1 : ∀ j, j < R → pn nd g j < 2 ^ k) (h2 : 2 ^ k ≤ pn nd g R) (h3 : R ≤ 100) : rsR nd g k = R :=
  rfind_spec _ R (by simpa using h2) 100 0 (fun j _ hj => by simpa using h1 j hj) (Nat.zero_le _) (by omega)
theorem gz_lt (nd : Nat) (g : Nat → Nat) (h : ∀ i, i < nd → g i < 10) (i : Nat) : gz nd g i < 10 := by
  unfold gz; split
  · exact h i (by assumption)
  · decide
/-- The place is found. -/
theorem rsR_found (nd : Nat) (g : Nat → Nat) (h0 : 0 < nd) (hg : g 0 ≠ 0) (k : Nat) (hk : k ≤ 60) :
    rsR nd g k ≤ 20 ∧ (∀ j, j < rsR nd g k → pn nd g j < 2 ^ k) ∧ 2 ^ k ≤ pn nd g (rsR nd g k) := by
  have key : ∀ m, (∀ j, j < m → pn nd g j < 2 ^ k) ∨ ∃ R, R < m ∧ (∀ j, j < R → pn nd g j < 2 ^ k) ∧ 2 ^ k ≤ pn nd g R := by
    intro m
    induction m with
    | zero => exact .inl (fun j hj => absurd hj (by omega))
    | succ m ih =>
      rcases ih with ih | ⟨R, h1, h2, h3⟩
      · by_cases hm : pn nd g m < 2 ^ k
        · exact .inl (fun j hj => by
            by_cases e : j = m
            · rw [e]; exact hm
            · exact ih j (by omega))
        · exact .inr ⟨m, by omega, ih, by omega⟩
      · exact .inr ⟨R, by omega, h2, h3⟩
  rcases key 21 with h | ⟨R, h1, h2, h3⟩
  · exact absurd (pn_short nd g h0 hg k hk 20 (h 20 (by decide))) (by decide)
  · have he := rsR_eq nd g k R h2 h3 (by omega)
    rw [he]
    exact ⟨by omega, h2, h3⟩
theorem rsM_lt (nd : Nat) (g : Nat → Nat) (h0 : 0 < nd) (hg : g 0 ≠ 0) (hd : ∀ i, i < nd → g i < 10) (k : Nat) (hk : k ≤ 60) (j : Nat) : rsM nd g k j < 10 * 2 ^ k := by
  obtain ⟨a, b, c⟩ := rsR_found nd g h0 hg k hk
  have hp : 0 < 2 ^ k := Nat.pow_pos (by decide)
  cases j with
  | zero =>
    show pn nd g (rsR nd g k) < _
    obtain ⟨r, hr⟩ : ∃ r, rsR nd g k = r + 1 := by
      cases e : rsR nd g k with
      | zero => rw [e] at c; exact absurd c (by show ¬ 2 ^ k ≤ 0; omega)
      | succ r => exact ⟨r, rfl⟩
    have h1 := b r (by omega)
    rw [hr]
    show pn nd g r * 10 + gz nd g r < _
    have := gz_lt nd g hd r
    omega
  | succ j =>
    show rsM nd g k j % 2 ^ k * 10 + gz nd g (rsR nd g k + j) < _
    have h1 := Nat.mod_lt (rsM nd g k j) hp
    have := gz_lt nd g hd (rsR nd g k + j)
    omega
theorem rsD_lt (nd : Nat) (g : Nat → Nat) (h0 : 0 < nd) (hg : g 0 ≠ 0) (hd : ∀ i, i < nd → g i < 10) (k : Nat) (hk : k ≤ 60) (j : Nat) : rsD nd g k j < 10 := by
  have h1 := rsM_lt nd g h0 hg hd k hk j
  have hp : 0 < 2 ^ k := Nat.pow_pos (by decide)
  unfold rsD
  rw [Nat.div_lt_iff_lt_mul hp]; exact h1
theorem rsD_zero (nd : Nat) (g : Nat → Nat) (h0 : 0 < nd) (hg : g 0 ≠ 0) (k : Nat) (hk : k ≤ 60) : 0 < rsD nd g k 0 := by
  obtain ⟨a, b, c⟩ := rsR_found nd g h0 hg k hk
  exact Nat.div_pos c (Nat.pow_pos (by decide))
/-- Once nothing is left in hand nor to be read, all digits are zeros. -/
theorem rsM_end (nd : Nat) (g : Nat → Nat) (k j : Nat) (h : rsM nd g k j = 0) (hj : nd ≤ rsR nd g k + j) (n : Nat) : rsM nd g k (j + n) = 0 := by
  induction n with
  | zero => exact h
  | succ n ih =>
    show rsM nd g k (j + n) % 2 ^ k * 10 + gz nd g (rsR nd g k + (j + n)) = 0
    rw [ih]
    unfold gz
    rw [if_neg (by omega)]
    simp
theorem rsD_end (nd : Nat) (g : Nat → Nat) (k j : Nat) (h : rsM nd g k j = 0) (hj : nd ≤ rsR nd g k + j) (i : Nat) (hi : j ≤ i) : rsD nd g k i = 0 := by
  obtain ⟨n, rfl⟩ : ∃ n, i = j + n := ⟨i - j, by omega⟩
  unfold rsD
  rw [rsM_end nd g k j h hj n]
  simp
/-- What is left in hand takes a factor two with each zero that is read. -/
theorem rsM_dvd (nd : Nat) (g : Nat → Nat) (k j0 : Nat) (hj : nd ≤ rsR nd g k + j0) (i : Nat) (hi : i ≤ k) : 2 ^ i ∣ rsM nd g k (j0 + i) := by
  induction i with
  | zero => exact Nat.one_dvd _
  | succ i ih =>
    show 2 ^ (i + 1) ∣ rsM nd g k (j0 + i) % 2 ^ k * 10 + gz nd g (rsR nd g k + (j0 + i))
    have h1 := ih (by omega)
    have h2 : 2 ^ i ∣ rsM nd g k (j0 + i) % 2 ^ k := (Nat.dvd_mod_iff (Nat.pow_dvd_pow 2 (by omega))).2 h1
    unfold gz
    rw [if_neg (by omega), Nat.add_zero, Nat.pow_succ]
    exact Nat.mul_dvd_mul h2 (by decide)
theorem rsM_last (nd : Nat) (g : Nat → Nat) (k j0 : Nat) (hj : nd ≤ rsR nd g k + j0) : rsM nd g k (j0 + (k + 1)) = 0 := by
  show rsM nd g k (j0 + k) % 2 ^ k * 10 + gz nd g (rsR nd g k + (j0 + k)) = 0
  rw [Nat.mod_eq_zero_of_dvd (rsM_dvd nd g k j0 hj k (Nat.le_refl _))]
  unfold gz
  rw [if_neg (by omega)]
/-- The digits' number after the shift. -/
def rsN (nd : Nat) (g : Nat → Nat) (k : Nat) : Nat := trimN (rsD nd g k) (min (nd + 80) 800)
theorem rsN_eq (nd : Nat) (g : Nat → Nat) (k j : Nat) (h : rsM nd g k j = 0) (hj : nd ≤ rsR nd g k + j) (hl : j ≤ nd + 80) : trimN (rsD nd g k) (min j 800) = rsN nd g k := by
  unfold rsN
  obtain ⟨n, hn⟩ : ∃ n, min (nd + 80) 800 = min j 800 + n := ⟨min (nd + 80) 800 - min j 800, by omega⟩
  rw [hn, trimN_zeros]
  intro i h1 h2
  exact rsD_end nd g k j h hj i (by omega)
theorem rsT_eq (nd : Nat) (g : Nat → Nat) (k : Nat) (tr : Bool) (j : Nat) (h : rsM nd g k j = 0) (hj : nd ≤ rsR nd g k + j) (hl : j ≤ nd + 80) : rsT nd g k tr j = rsT nd g k tr (nd + 80) := by
  obtain ⟨n, hn⟩ : ∃ n, nd + 80 = j + n := ⟨nd + 80 - j, by omega⟩
  rw [hn, rsT_add nd g k tr j (fun i hi => rsD_end nd g k j h hj i hi)]

end Go.Proofs.YtblpcpkkjbkakaaGreatDoor
