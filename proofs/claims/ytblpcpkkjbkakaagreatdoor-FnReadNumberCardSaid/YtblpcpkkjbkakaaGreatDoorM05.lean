/- Lemmas towards the seat's laws: 3 texts joined. -/
import Derived.Test.YtblpcpkkjbkakaaGreatDoorM04
import Derived.Laws.EntriesVeiled
/- The token's text. -/
namespace Go.Proofs.YtblpcpkkjbkakaaGreatDoor
open Go Go.RowKit
set_option linter.unusedVariables false
set_option linter.unusedSimpArgs false

def TextPost (s : ByteArray) (rb B b : Nat) (F : Nat → Option Value) (t E : Nat) (w : World) (e : Ending) (w' : World) : Prop :=
  e = .returned (.string ⟨(seg s t E).toArray⟩) ∧ Toke s rb B b F t E w' ∧ Fr B b rb w w'

theorem slice88n (b l h : Nat) (h1 : l ≤ h) (h2 : h ≤ 1024) (W : World) :
    (Instr.sliceAt 88 (.pointer (some ⟨b, 1, none⟩)) (some (.int .i64 l)) (some (.int .i64 h)) none).run Tryz.prog W = .ok (.slice (some ⟨b, 1 + l, none⟩) (h - l) (1025 - l)) W := slice88 b l h h1 (by omega) (by omega) W

set_option maxRecDepth 100000 in
set_option maxHeartbeats 4000000 in
theorem tokenText_any (s : ByteArray) (rb B b : Nat) (F : Nat → Option Value) (t E : Nat) (w : World) (h : Toke s rb B b F t E w) :
    Calls Tryz.prog 68 #[.pointer (some ⟨b, 0, none⟩)] w (TextPost s rb B b F t E w) := by
  obtain ⟨R, pos, en, off, tb, hI, hok, hT, hq, hFR, hrb, hne, ⟨pr, hr⟩, h37⟩ := h
  obtain ⟨tp, ht1, ht2, ht3, ht4⟩ := hT
  obtain ⟨te, hte⟩ : ∃ te : Nat, te = pos - nl s E := ⟨_, rfl⟩
  rw [← hte] at ht2 h37
  have hnx : nx s E = E + nl s E := by unfold nx nl; split <;> omega
  have hla := hok.hla
  have hpos := hok.hpos
  have hen := hok.hen
  have hof := hok.hoff
  have hs := hok.hs
  have hB := hI.1
  have hBW : B ≤ w.heap.size := Nat.le_trans hB (Nat.le_of_lt hI.lt)
  have hE : off + te = E := by omega
  have htp : te ≤ pos := by omega
  have c36 := at_cell hI ht1 (by omega)
  have c37 := at_cell hI ((hFR 1037 (by omega)).trans h37) (by omega)
  have hsg := seg_length s (off + tp) E (by omega)
  have hwn : (seg s (off + tp) E).length = te - tp := by rw [hsg]; omega
  have hown : ∀ j (hj : j < (seg s (off + tp) E).length), R (1 + tp + j) = some (.int .u8 (seg s (off + tp) E)[j].toNat) := by
    intro j hj
    obtain ⟨hh, h1⟩ := seg_get s (off + tp) E j (by omega) hj
    obtain ⟨h2, h3⟩ := hok.own (tp + j) (by omega)
    rw [h1, Nat.add_assoc, h3]
    simp only [Nat.add_assoc]
  have htl : tb.length = off + tp - t := by rw [ht4, seg_length s t (off + tp) (by omega)]
  have hcat : tb ++ seg s (off + tp) E = seg s t E := by rw [ht4, seg_append s t (off + tp) E ht3 (by omega)]
  have hlt0 : ((te : Int) < (tp : Int)) = False := eq_false (by omega)
  have hsl := fun W => slice88n b tp te ht2 (by omega) W
  have hrd : ∀ W : World, IsB B b R tb W → ∀ j, j < te - tp → ∀ v, R (1 + tp + j) = some v → W.cell? ⟨b, 1 + tp + j, none⟩ = some v := fun W hW j hj v hv => at_cell hW hv (by omega)
  have hcv : ∀ W : World, IsB B b R tb W → (convert 85 9 (.slice (some ⟨b, 1 + tp, none⟩) (te - tp) (1025 - tp))).run Tryz.prog W = .ok (.string ⟨(seg s (off + tp) E).toArray⟩) W := by
    intro W hW
    rw [← hwn]
    refine run_convert_bytes_back W 85 9 5 ⟨b, 1 + tp, none⟩ (1025 - tp) _ Tryz.underlying85 Tryz.underlying5 Tryz.underlying9 (fun j hj => ?_)
    have hadd : (⟨b, 1 + tp, none⟩ : Addr).add j = ⟨b, 1 + tp + j, none⟩ := by unfold Addr.add; split <;> simp_all
    rw [hadd]
    exact at_cell hW (hown j hj) (by omega)
  have hfin : ∀ W, IsB B b R tb W → Fr B b rb w W → W.heap[rb]? = w.heap[rb]? → Toke s rb B b F t E W := fun W h1 h2 h3 => ⟨R, pos, en, off, tb, h1, hok, ⟨tp, ht1, by omega, ht3, ht4⟩, hq, hFR, hrb, hne, ⟨pr, h3.trans hr⟩, by rw [h37, hte]⟩
  have HFIN := Lib.hid hfin; clear hfin
  have HCV := Lib.hid hcv; clear hcv
  have HCAT := Lib.hid hcat; clear hcat
  have HOWN := Lib.hid hown; clear hown
  have HI := Lib.hid hI; clear hI
  have HR := Lib.hid hr; clear hr
  have hfin2 : ∀ W, IsB B b R (seg s t E) W → W.heap[rb]? = w.heap[rb]? → Toke s rb B b F t E (W.setCell ⟨b, 1036, none⟩ (.int .i64 te)) := fun W h1 h3 =>
    ⟨upd R 1036 (.int .i64 te), pos, en, off, seg s t E, h1.set 1036 (by omega) (by rw [ht1]; rfl) _, hok.same (fun j hj => upd_ne _ _ _ _ (by omega)), ⟨te, upd_at _ _ _, by omega, by omega, by rw [hE]⟩, hq, fun j hj => (upd_ne _ _ _ _ (by omega)).trans (hFR j hj), hrb, hne, ⟨pr, (Below.heap_setCell _ _ _ _ hne).trans (h3.trans HR.out)⟩, by rw [h37, hte]⟩
  have HFIN2 := Lib.hid hfin2; clear hfin2
  have HOK := Lib.hid hok; clear hok
  have HFR := Lib.hid hFR; clear hFR
  have h1036 := ht1
  have HT4 := Lib.hid ht4; clear ht4
  have HT1 := Lib.hid ht1; clear ht1
  have H37 := Lib.hid h37; clear h37 h1036
  clear hrd hq hte hnx hsg
  go_enter Tryz.func68, Tryz.ntmps68
  go_upto_region 3 with fail
  go_quiet (fail)
  go_upto_region 5 with fail
  obtain ⟨W1, hW1⟩ : ∃ W1, W1 = w.drewN nq := ⟨_, rfl⟩
  rw [← hW1]
  have hI1 : IsB B b R tb W1 := by rw [hW1]; exact HI.out.drewN nq
  have f1 : Fr B b rb w W1 := by rw [hW1]; exact (Fr.refl B b rb w).drewN nq
  have hr1 : W1.heap[rb]? = w.heap[rb]? := by rw [hW1]; rfl
  clear hW1 c36 c37
  have hlen : (Lib.byteCells tb).length = off + tp - t := by rw [Lib.byteCells_length]; exact htl
  have HI1 := Lib.hid hI1; clear hI1
  by_cases h0 : off + tp - t = 0
  · have heq : (((off + tp - t : Nat) : Int) == 0) = true := by rw [h0]; rfl
    have ht : off + tp = t := by omega
    go_wp2_with (go_at_call 96; refine (Tryz.Buffer_Len_at 104 R B b 1033 (Lib.byteCells tb) _ HI1.out).mono ?_; rintro e w' ⟨rfl, n, rfl⟩; rw [hlen])
    obtain ⟨W2, hW2⟩ : ∃ W2, W2 = W1.drewN n := ⟨_, rfl⟩
    rw [← hW2]
    have hI2 : IsB B b R tb W2 := by rw [hW2]; exact HI1.out.drewN n
    have f2 : Fr B b rb w W2 := by rw [hW2]; exact f1.drewN n
    have hr2 : W2.heap[rb]? = w.heap[rb]? := by rw [hW2]; exact hr1
    clear hW2 HI1 f1 hr1
    have c36 := at_cell hI2 HT1.out (by omega)
    have c37 := at_cell hI2 ((HFR.out 1037 (by omega)).trans H37.out) (by omega)
    have hcv := HCV.out W2.drew hI2.drew
    have HI2 := Lib.hid hI2; clear hI2
    go_still_tail 11, (by kernel_rfl)
    change wpList _ _ _ _ _ W2.drew
    go_wp2_with fail
    go_ret
    refine ⟨?_, HFIN.out _ HI2.out.drew (f2.drewN 1) hr2, f2.drewN 1⟩
    rw [← ht]; rfl
  · have heq : (((off + tp - t : Nat) : Int) == 0) = false := beq_false_of_ne (by omega)
    go_wp2_with (go_at_call 96; refine (Tryz.Buffer_Len_at 104 R B b 1033 (Lib.byteCells tb) _ HI1.out).mono ?_; rintro e w' ⟨rfl, n, rfl⟩; rw [hlen])
    obtain ⟨W2, hW2⟩ : ∃ W2, W2 = W1.drewN n := ⟨_, rfl⟩
    rw [← hW2]
    have hI2 : IsB B b R tb W2 := by rw [hW2]; exact HI1.out.drewN n
    have f2 : Fr B b rb w W2 := by rw [hW2]; exact f1.drewN n
    have hr2 : W2.heap[rb]? = w.heap[rb]? := by rw [hW2]; exact hr1
    clear hW2 HI1 f1 hr1
    have c36 := at_cell hI2 HT1.out (by omega)
    have c37 := at_cell hI2 ((HFR.out 1037 (by omega)).trans H37.out) (by omega)
    have hBW2 : B ≤ W2.drew.heap.size := Nat.le_trans hB (Nat.le_of_lt hI2.lt)
    have HW := Lib.hid (write_own B b R tb (seg s (off + tp) E) (1 + tp) (te - tp) (1025 - tp) W2.drew hI2.drew hBW2 hwn HOWN.out (by omega) (by omega))
    clear hI2 hBW2
    go_still_tail 15, (by kernel_rfl)
    change wpList _ _ _ _ _ W2.drew
    go_wp2_with (go_at_call 97; refine HW.out.mono ?_)
    rintro e W3 ⟨rfl, hI3, hb3, ho3⟩
    rw [HCAT.out] at hI3
    have hr3 : W3.heap[rb]? = w.heap[rb]? := (ho3 rb _ (hr2.trans HR.out) (fun e => hne (Option.some.inj e)) (fun c fz e => by simp at e)).trans HR.out.symm
    have f3 : Fr B b rb w W3 := (f2.drewN 1).trans (Fr.of hb3 ho3)
    clear hb3 ho3 c36 c37 HW f2 hr2
    have c36 := at_cell hI3 HT1.out (by omega)
    have c37 := at_cell hI3 ((HFR.out 1037 (by omega)).trans H37.out) (by omega)
    have f36 := hI3.notFrozen 1036
    have htk := HFIN2.out W3 hI3 hr3
    have hI4 : IsB B b (upd R 1036 (.int .i64 te)) (seg s t E) (W3.setCell ⟨b, 1036, none⟩ (.int .i64 te)) := hI3.set 1036 (by omega) (by rw [HT1.out]; rfl) _
    have HI4 := Lib.hid hI4; clear hI4 hI3
    go_wp2_with fail
    refine (Tryz.Buffer_String_at 104 _ B b 1033 (seg s t E) _ HI4.out).mono ?_
    rintro e w' ⟨rfl, n5, rfl⟩
    go_wp2_with fail
    go_ret
    refine ⟨rfl, ?_, (f3.set hB _ _).drewN n5⟩
    obtain ⟨R, pos, en, off, tb, h1, h2⟩ := htk
    exact ⟨R, pos, en, off, tb, h1.drewN n5, h2⟩

end Go.Proofs.YtblpcpkkjbkakaaGreatDoor
/- The parser's making. -/
namespace Go.Proofs.YtblpcpkkjbkakaaGreatDoor
open Go Go.RowKit
set_option linter.unusedVariables false
set_option linter.unusedSimpArgs false
def X (w : World) (e : Ending) (w' : World) : Prop := False

theorem newReader_any (s : ByteArray) (w : World) : Calls Tryz.prog 65 #[.string s] w (fun e w' => e = .returned (.pointer (some ⟨w.heap.size, 0, none⟩)) ∧ w' = w.alloc (.cells #[.string s, .int .i64 0, .int .i64 (-1)] 154)) := by
  go_enter Tryz.func65, Tryz.ntmps65
  go_wp2_with fail
  go_ret
  exact ⟨rfl, rfl⟩

/-- A block of n cells, R says which. -/
def Blk (w : World) (b T : Nat) (R : Nat → Option Value) (n : Nat) : Prop := ∃ cs, w.heap[b]? = some (.cells cs T (0, 0)) ∧ (cs.size = n ∧ ∀ i v, R i = some v → v.oneCell' = true) ∧ ∀ i, cs[i]? = R i
theorem Blk.set {w : World} {b T : Nat} {R : Nat → Option Value} {n : Nat} (h : Blk w b T R n) (i : Nat) (hi : i < n) (v : Value) (h1 : v.oneCell' = true) : Blk (w.setCell ⟨b, i, none⟩ v) b T (upd R i v) n := by
  obtain ⟨cs, hh, ⟨h2, ho⟩, h3⟩ := h
  refine ⟨_, Lib.heap_setCell_same hh v, ⟨by simp [h2], fun j x hx => ?_⟩, fun j => ?_⟩
  · unfold upd at hx
    split at hx
    · rw [← Option.some.inj hx]; exact h1
    · exact ho j x hx
  · rw [Array.getElem?_setIfInBounds]
    unfold upd
    by_cases hj : j = i
    · subst hj; simp [h2, hi]
    · rw [if_neg (fun e => hj e.symm), if_neg hj]; exact h3 j
theorem Blk.cell {w : World} {b T : Nat} {R : Nat → Option Value} {n : Nat} (h : Blk w b T R n) (i : Nat) : w.cell? ⟨b, i, none⟩ = R i := by
  obtain ⟨cs, h1, h2, h3⟩ := h
  rw [Lib.cell_of_heap h1]; exact h3 i
theorem Blk.frozen {w : World} {b T : Nat} {R : Nat → Option Value} {n : Nat} (h : Blk w b T R n) (i : Nat) : w.frozen? ⟨b, i, none⟩ = false := by
  obtain ⟨cs, h1, h2, h3⟩ := h
  exact Lib.frozen_of_heap h1 i
theorem Blk.isSome {w : World} {b T : Nat} {R : Nat → Option Value} {n : Nat} (h : Blk w b T R n) {i : Nat} (hi : i < n) : ∃ x, R i = some x := by
  obtain ⟨cs, h1, ⟨h2, _⟩, h3⟩ := h
  exact ⟨cs[i], by rw [← h3 i]; simp [h2, hi]⟩
theorem Blk.all {w : World} {b T : Nat} {R : Nat → Option Value} {n : Nat} (h : Blk w b T R n) : ∃ cs, w.heap[b]? = some (.cells cs T (0, 0)) ∧ cs.size = n ∧ cs.all (·.oneCell') = true ∧ ∀ i, cs[i]? = R i := by
  obtain ⟨cs, h1, ⟨h2, ho⟩, h3⟩ := h
  refine ⟨cs, h1, h2, ?_, h3⟩
  rw [Array.all_eq_true_iff_forall_mem]
  intro v hv
  obtain ⟨i, hi, rfl⟩ := Array.getElem_of_mem hv
  exact ho i _ (by rw [← h3 i]; simp [hi])

/-- A part laid into a struct's zero value. -/
theorem fold_set (l : List Value) : ∀ (k : Nat) (z : Array Value), k + l.length ≤ z.size → ((l.zipIdx k).foldl (fun cs x => cs.setIfInBounds (0 + x.2) x.1) z).size = z.size ∧
    ∀ i, ((l.zipIdx k).foldl (fun cs x => cs.setIfInBounds (0 + x.2) x.1) z)[i]? = if k ≤ i ∧ i < k + l.length then l[i - k]? else z[i]? := by
  induction l with
  | nil =>
    intro k z h
    refine ⟨rfl, fun i => ?_⟩
    rw [if_neg (by simp only [List.length_nil]; omega)]; rfl
  | cons v l ih =>
    intro k z h
    simp only [List.length_cons] at h
    obtain ⟨h1, h2⟩ := ih (k + 1) (z.setIfInBounds (0 + k) v) (by simp; omega)
    simp only [List.zipIdx_cons, List.foldl_cons]
    refine ⟨by rw [h1]; simp, fun i => ?_⟩
    rw [h2 i]
    simp only [List.length_cons]
    by_cases hi : i = k
    · subst hi
      rw [if_neg (by omega), if_pos (by omega)]
      simp [show i < z.size by omega]
    · by_cases hc : k + 1 ≤ i ∧ i < k + 1 + l.length
      · rw [if_pos hc, if_pos (by omega)]
        rw [show i - k = (i - (k + 1)) + 1 by omega]; rfl
      · rw [if_neg hc, if_neg (by omega), Array.getElem?_setIfInBounds_ne (by omega)]
theorem fill_one (place : Nat → Option (Nat × Nat)) (z cs : Array Value) (n : Nat) (hp : place 0 = some (0, n)) (hc : cs.size = n) (hz : n ≤ z.size) :
    ∃ r, Instr.fill place z [(0, .agg cs)] = some r ∧ r.size = z.size ∧ ∀ i, r[i]? = if i < n then cs[i]? else z[i]? := by
  have hf := fold_set cs.toList 0 z (by simp; omega)
  refine ⟨(cs.toList.zipIdx 0).foldl (fun cs x => cs.setIfInBounds (0 + x.2) x.1) z, ?_, hf.1, ?_⟩
  · have hcond : (decide ((Value.agg cs).cells.size ≠ n) || decide (0 + (Value.agg cs).cells.size > z.size)) = false := by
      show (decide (cs.size ≠ n) || decide (0 + cs.size > z.size)) = false
      simp [hc]; omega
    unfold Instr.fill
    rw [hp]
    dsimp only
    rw [hcond]
    show some (Array.foldl _ z cs.zipIdx) = _
    rw [← Array.foldl_toList, Array.toList_zipIdx]
  · intro i
    rw [hf.2 i]
    simp [hc]

def initR (R : Nat → Option Value) (v : Value) : Nat → Option Value :=
  upd (upd (upd (upd (upd (upd (upd (upd (upd (upd (upd (upd (upd (upd (upd (upd R 0 v) 1 (.int .u8 128)) 1026 (.int .i64 0)) 1027 (.int .i64 0)) 1028 (.int .i64 0)) 1029 (.int .i64 1)) 1030 (.int .i64 0)) 1031 (.int .i64 0)) 1032 (.int .i64 0)) 1036 (.int .i64 (-1))) 1038 (.int .i32 (-2))) 1039 .nilFunc) 1040 (.int .i64 0)) 1041 (.int .u64 1012)) 1042 (.int .u64 4294977024)) 1046 (.int .i64 0)

def InitPost (b : Nat) (R : Nat → Option Value) (v : Value) (w : World) (e : Ending) (w' : World) : Prop :=
  (∃ x, e = .returned x) ∧ Blk w' b 99 (initR R v) 1048 ∧ (∀ k, k ≠ b → w'.heap[k]? = w.heap[k]?) ∧ w'.heap.size = w.heap.size ∧ Below 0 w w'

set_option maxRecDepth 100000 in
set_option maxHeartbeats 4000000 in
theorem init_any (b rb : Nat) (R : Nat → Option Value) (w : World) (hb : Blk w b 99 R 1048) : Calls Tryz.prog 64 #[.pointer (some ⟨b, 0, none⟩), .iface 130 (.pointer (some ⟨rb, 0, none⟩))] w (InitPost b R (.iface 130 (.pointer (some ⟨rb, 0, none⟩))) w) := by
  have hk : ∀ k, k ≠ b → w.heap[k]? = w.heap[k]? := fun _ _ => rfl
  have hsz : w.heap.size = w.heap.size := rfl
  have HB0 := Lib.hid hb
  have HK0 := Lib.hid hk
  have HZ0 := Lib.hid hsz
  have HW0 := Lib.hid (Below.refl 0 w)
  clear hk hsz
  obtain ⟨y0, hy⟩ := HB0.out.isSome (i := 0) (by omega)
  have c := (HB0.out.cell 0).trans hy
  have f := HB0.out.frozen 0
  clear hy hb
  go_enter Tryz.func64, Tryz.ntmps64
  go_upto_region 2 with fail
  obtain ⟨W1, hW⟩ : ∃ W', W' = w.setCell ⟨b, 0, none⟩ (.iface 130 (.pointer (some ⟨rb, 0, none⟩))) := ⟨_, rfl⟩
  rw [← hW]
  have HB1 := Lib.hid (show Blk W1 b 99 (upd _ 0 (.iface 130 (.pointer (some ⟨rb, 0, none⟩)))) 1048 by rw [hW]; exact HB0.out.set 0 (by omega) _ rfl)
  have HK1 := Lib.hid (show ∀ k, k ≠ b → W1.heap[k]? = w.heap[k]? by rw [hW]; intro k hk; rw [Below.heap_setCell _ _ _ _ hk])
  have HZ1 := Lib.hid (show W1.heap.size = w.heap.size by rw [hW]; simp only [World.setCell, Array.size_modify])
  have HW1 := Lib.hid (show Below 0 w W1 by rw [hW]; exact HW0.out.setCell (p := ⟨b, 0, none⟩) (Nat.zero_le _) _)
  clear hW HB0 HK0 HZ0 HW0 c f
  obtain ⟨y1, hy⟩ := HB1.out.isSome (i := 1) (by omega)
  have c := (HB1.out.cell 1).trans hy
  have f := HB1.out.frozen 1
  clear hy
  go_upto_region 3 with fail
  obtain ⟨W2, hW⟩ : ∃ W', W' = W1.setCell ⟨b, 1, none⟩ (.int .u8 128) := ⟨_, rfl⟩
  rw [← hW]
  have HB2 := Lib.hid (show Blk W2 b 99 (upd _ 1 (.int .u8 128)) 1048 by rw [hW]; exact HB1.out.set 1 (by omega) _ rfl)
  have HK2 := Lib.hid (show ∀ k, k ≠ b → W2.heap[k]? = w.heap[k]? by rw [hW]; intro k hk; rw [Below.heap_setCell _ _ _ _ hk]; exact HK1.out k hk)
  have HZ2 := Lib.hid (show W2.heap.size = w.heap.size by rw [hW]; simp only [World.setCell, Array.size_modify]; exact HZ1.out)
  have HW2 := Lib.hid (show Below 0 w W2 by rw [hW]; exact HW1.out.setCell (p := ⟨b, 1, none⟩) (Nat.zero_le _) _)
  clear hW HB1 HK1 HZ1 HW1 c f W1
  obtain ⟨y2, hy⟩ := HB2.out.isSome (i := 1026) (by omega)
  have c := (HB2.out.cell 1026).trans hy
  have f := HB2.out.frozen 1026
  clear hy
  go_upto_region 4 with fail
  obtain ⟨W3, hW⟩ : ∃ W', W' = W2.setCell ⟨b, 1026, none⟩ (.int .i64 0) := ⟨_, rfl⟩
  rw [← hW]
  have HB3 := Lib.hid (show Blk W3 b 99 (upd _ 1026 (.int .i64 0)) 1048 by rw [hW]; exact HB2.out.set 1026 (by omega) _ rfl)
  have HK3 := Lib.hid (show ∀ k, k ≠ b → W3.heap[k]? = w.heap[k]? by rw [hW]; intro k hk; rw [Below.heap_setCell _ _ _ _ hk]; exact HK2.out k hk)
  have HZ3 := Lib.hid (show W3.heap.size = w.heap.size by rw [hW]; simp only [World.setCell, Array.size_modify]; exact HZ2.out)
  have HW3 := Lib.hid (show Below 0 w W3 by rw [hW]; exact HW2.out.setCell (p := ⟨b, 1026, none⟩) (Nat.zero_le _) _)
  clear hW HB2 HK2 HZ2 HW2 c f W2
  obtain ⟨y3, hy⟩ := HB3.out.isSome (i := 1027) (by omega)
  have c := (HB3.out.cell 1027).trans hy
  have f := HB3.out.frozen 1027
  clear hy
  go_upto_region 5 with fail
  obtain ⟨W4, hW⟩ : ∃ W', W' = W3.setCell ⟨b, 1027, none⟩ (.int .i64 0) := ⟨_, rfl⟩
  rw [← hW]
  have HB4 := Lib.hid (show Blk W4 b 99 (upd _ 1027 (.int .i64 0)) 1048 by rw [hW]; exact HB3.out.set 1027 (by omega) _ rfl)
  have HK4 := Lib.hid (show ∀ k, k ≠ b → W4.heap[k]? = w.heap[k]? by rw [hW]; intro k hk; rw [Below.heap_setCell _ _ _ _ hk]; exact HK3.out k hk)
  have HZ4 := Lib.hid (show W4.heap.size = w.heap.size by rw [hW]; simp only [World.setCell, Array.size_modify]; exact HZ3.out)
  have HW4 := Lib.hid (show Below 0 w W4 by rw [hW]; exact HW3.out.setCell (p := ⟨b, 1027, none⟩) (Nat.zero_le _) _)
  clear hW HB3 HK3 HZ3 HW3 c f W3
  obtain ⟨y4, hy⟩ := HB4.out.isSome (i := 1028) (by omega)
  have c := (HB4.out.cell 1028).trans hy
  have f := HB4.out.frozen 1028
  clear hy
  go_upto_region 6 with fail
  obtain ⟨W5, hW⟩ : ∃ W', W' = W4.setCell ⟨b, 1028, none⟩ (.int .i64 0) := ⟨_, rfl⟩
  rw [← hW]
  have HB5 := Lib.hid (show Blk W5 b 99 (upd _ 1028 (.int .i64 0)) 1048 by rw [hW]; exact HB4.out.set 1028 (by omega) _ rfl)
  have HK5 := Lib.hid (show ∀ k, k ≠ b → W5.heap[k]? = w.heap[k]? by rw [hW]; intro k hk; rw [Below.heap_setCell _ _ _ _ hk]; exact HK4.out k hk)
  have HZ5 := Lib.hid (show W5.heap.size = w.heap.size by rw [hW]; simp only [World.setCell, Array.size_modify]; exact HZ4.out)
  have HW5 := Lib.hid (show Below 0 w W5 by rw [hW]; exact HW4.out.setCell (p := ⟨b, 1028, none⟩) (Nat.zero_le _) _)
  clear hW HB4 HK4 HZ4 HW4 c f W4
  obtain ⟨y5, hy⟩ := HB5.out.isSome (i := 1029) (by omega)
  have c := (HB5.out.cell 1029).trans hy
  have f := HB5.out.frozen 1029
  clear hy
  go_upto_region 7 with fail
  obtain ⟨W6, hW⟩ : ∃ W', W' = W5.setCell ⟨b, 1029, none⟩ (.int .i64 1) := ⟨_, rfl⟩
  rw [← hW]
  have HB6 := Lib.hid (show Blk W6 b 99 (upd _ 1029 (.int .i64 1)) 1048 by rw [hW]; exact HB5.out.set 1029 (by omega) _ rfl)
  have HK6 := Lib.hid (show ∀ k, k ≠ b → W6.heap[k]? = w.heap[k]? by rw [hW]; intro k hk; rw [Below.heap_setCell _ _ _ _ hk]; exact HK5.out k hk)
  have HZ6 := Lib.hid (show W6.heap.size = w.heap.size by rw [hW]; simp only [World.setCell, Array.size_modify]; exact HZ5.out)
  have HW6 := Lib.hid (show Below 0 w W6 by rw [hW]; exact HW5.out.setCell (p := ⟨b, 1029, none⟩) (Nat.zero_le _) _)
  clear hW HB5 HK5 HZ5 HW5 c f W5
  obtain ⟨y6, hy⟩ := HB6.out.isSome (i := 1030) (by omega)
  have c := (HB6.out.cell 1030).trans hy
  have f := HB6.out.frozen 1030
  clear hy
  go_upto_region 8 with fail
  obtain ⟨W7, hW⟩ : ∃ W', W' = W6.setCell ⟨b, 1030, none⟩ (.int .i64 0) := ⟨_, rfl⟩
  rw [← hW]
  have HB7 := Lib.hid (show Blk W7 b 99 (upd _ 1030 (.int .i64 0)) 1048 by rw [hW]; exact HB6.out.set 1030 (by omega) _ rfl)
  have HK7 := Lib.hid (show ∀ k, k ≠ b → W7.heap[k]? = w.heap[k]? by rw [hW]; intro k hk; rw [Below.heap_setCell _ _ _ _ hk]; exact HK6.out k hk)
  have HZ7 := Lib.hid (show W7.heap.size = w.heap.size by rw [hW]; simp only [World.setCell, Array.size_modify]; exact HZ6.out)
  have HW7 := Lib.hid (show Below 0 w W7 by rw [hW]; exact HW6.out.setCell (p := ⟨b, 1030, none⟩) (Nat.zero_le _) _)
  clear hW HB6 HK6 HZ6 HW6 c f W6
  obtain ⟨y7, hy⟩ := HB7.out.isSome (i := 1031) (by omega)
  have c := (HB7.out.cell 1031).trans hy
  have f := HB7.out.frozen 1031
  clear hy
  go_upto_region 9 with fail
  obtain ⟨W8, hW⟩ : ∃ W', W' = W7.setCell ⟨b, 1031, none⟩ (.int .i64 0) := ⟨_, rfl⟩
  rw [← hW]
  have HB8 := Lib.hid (show Blk W8 b 99 (upd _ 1031 (.int .i64 0)) 1048 by rw [hW]; exact HB7.out.set 1031 (by omega) _ rfl)
  have HK8 := Lib.hid (show ∀ k, k ≠ b → W8.heap[k]? = w.heap[k]? by rw [hW]; intro k hk; rw [Below.heap_setCell _ _ _ _ hk]; exact HK7.out k hk)
  have HZ8 := Lib.hid (show W8.heap.size = w.heap.size by rw [hW]; simp only [World.setCell, Array.size_modify]; exact HZ7.out)
  have HW8 := Lib.hid (show Below 0 w W8 by rw [hW]; exact HW7.out.setCell (p := ⟨b, 1031, none⟩) (Nat.zero_le _) _)
  clear hW HB7 HK7 HZ7 HW7 c f W7
  obtain ⟨y8, hy⟩ := HB8.out.isSome (i := 1032) (by omega)
  have c := (HB8.out.cell 1032).trans hy
  have f := HB8.out.frozen 1032
  clear hy
  go_upto_region 10 with fail
  obtain ⟨W9, hW⟩ : ∃ W', W' = W8.setCell ⟨b, 1032, none⟩ (.int .i64 0) := ⟨_, rfl⟩
  rw [← hW]
  have HB9 := Lib.hid (show Blk W9 b 99 (upd _ 1032 (.int .i64 0)) 1048 by rw [hW]; exact HB8.out.set 1032 (by omega) _ rfl)
  have HK9 := Lib.hid (show ∀ k, k ≠ b → W9.heap[k]? = w.heap[k]? by rw [hW]; intro k hk; rw [Below.heap_setCell _ _ _ _ hk]; exact HK8.out k hk)
  have HZ9 := Lib.hid (show W9.heap.size = w.heap.size by rw [hW]; simp only [World.setCell, Array.size_modify]; exact HZ8.out)
  have HW9 := Lib.hid (show Below 0 w W9 by rw [hW]; exact HW8.out.setCell (p := ⟨b, 1032, none⟩) (Nat.zero_le _) _)
  clear hW HB8 HK8 HZ8 HW8 c f W8
  obtain ⟨y9, hy⟩ := HB9.out.isSome (i := 1036) (by omega)
  have c := (HB9.out.cell 1036).trans hy
  have f := HB9.out.frozen 1036
  clear hy
  go_upto_region 11 with fail
  obtain ⟨W10, hW⟩ : ∃ W', W' = W9.setCell ⟨b, 1036, none⟩ (.int .i64 (-1)) := ⟨_, rfl⟩
  rw [← hW]
  have HB10 := Lib.hid (show Blk W10 b 99 (upd _ 1036 (.int .i64 (-1))) 1048 by rw [hW]; exact HB9.out.set 1036 (by omega) _ rfl)
  have HK10 := Lib.hid (show ∀ k, k ≠ b → W10.heap[k]? = w.heap[k]? by rw [hW]; intro k hk; rw [Below.heap_setCell _ _ _ _ hk]; exact HK9.out k hk)
  have HZ10 := Lib.hid (show W10.heap.size = w.heap.size by rw [hW]; simp only [World.setCell, Array.size_modify]; exact HZ9.out)
  have HW10 := Lib.hid (show Below 0 w W10 by rw [hW]; exact HW9.out.setCell (p := ⟨b, 1036, none⟩) (Nat.zero_le _) _)
  clear hW HB9 HK9 HZ9 HW9 c f W9
  obtain ⟨y10, hy⟩ := HB10.out.isSome (i := 1038) (by omega)
  have c := (HB10.out.cell 1038).trans hy
  have f := HB10.out.frozen 1038
  clear hy
  go_upto_region 12 with fail
  obtain ⟨W11, hW⟩ : ∃ W', W' = W10.setCell ⟨b, 1038, none⟩ (.int .i32 (-2)) := ⟨_, rfl⟩
  rw [← hW]
  have HB11 := Lib.hid (show Blk W11 b 99 (upd _ 1038 (.int .i32 (-2))) 1048 by rw [hW]; exact HB10.out.set 1038 (by omega) _ rfl)
  have HK11 := Lib.hid (show ∀ k, k ≠ b → W11.heap[k]? = w.heap[k]? by rw [hW]; intro k hk; rw [Below.heap_setCell _ _ _ _ hk]; exact HK10.out k hk)
  have HZ11 := Lib.hid (show W11.heap.size = w.heap.size by rw [hW]; simp only [World.setCell, Array.size_modify]; exact HZ10.out)
  have HW11 := Lib.hid (show Below 0 w W11 by rw [hW]; exact HW10.out.setCell (p := ⟨b, 1038, none⟩) (Nat.zero_le _) _)
  clear hW HB10 HK10 HZ10 HW10 c f W10
  obtain ⟨y11, hy⟩ := HB11.out.isSome (i := 1039) (by omega)
  have c := (HB11.out.cell 1039).trans hy
  have f := HB11.out.frozen 1039
  clear hy
  go_upto_region 13 with fail
  obtain ⟨W12, hW⟩ : ∃ W', W' = W11.setCell ⟨b, 1039, none⟩ .nilFunc := ⟨_, rfl⟩
  rw [← hW]
  have HB12 := Lib.hid (show Blk W12 b 99 (upd _ 1039 .nilFunc) 1048 by rw [hW]; exact HB11.out.set 1039 (by omega) _ rfl)
  have HK12 := Lib.hid (show ∀ k, k ≠ b → W12.heap[k]? = w.heap[k]? by rw [hW]; intro k hk; rw [Below.heap_setCell _ _ _ _ hk]; exact HK11.out k hk)
  have HZ12 := Lib.hid (show W12.heap.size = w.heap.size by rw [hW]; simp only [World.setCell, Array.size_modify]; exact HZ11.out)
  have HW12 := Lib.hid (show Below 0 w W12 by rw [hW]; exact HW11.out.setCell (p := ⟨b, 1039, none⟩) (Nat.zero_le _) _)
  clear hW HB11 HK11 HZ11 HW11 c f W11
  obtain ⟨y12, hy⟩ := HB12.out.isSome (i := 1040) (by omega)
  have c := (HB12.out.cell 1040).trans hy
  have f := HB12.out.frozen 1040
  clear hy
  go_upto_region 14 with fail
  obtain ⟨W13, hW⟩ : ∃ W', W' = W12.setCell ⟨b, 1040, none⟩ (.int .i64 0) := ⟨_, rfl⟩
  rw [← hW]
  have HB13 := Lib.hid (show Blk W13 b 99 (upd _ 1040 (.int .i64 0)) 1048 by rw [hW]; exact HB12.out.set 1040 (by omega) _ rfl)
  have HK13 := Lib.hid (show ∀ k, k ≠ b → W13.heap[k]? = w.heap[k]? by rw [hW]; intro k hk; rw [Below.heap_setCell _ _ _ _ hk]; exact HK12.out k hk)
  have HZ13 := Lib.hid (show W13.heap.size = w.heap.size by rw [hW]; simp only [World.setCell, Array.size_modify]; exact HZ12.out)
  have HW13 := Lib.hid (show Below 0 w W13 by rw [hW]; exact HW12.out.setCell (p := ⟨b, 1040, none⟩) (Nat.zero_le _) _)
  clear hW HB12 HK12 HZ12 HW12 c f W12
  obtain ⟨y13, hy⟩ := HB13.out.isSome (i := 1041) (by omega)
  have c := (HB13.out.cell 1041).trans hy
  have f := HB13.out.frozen 1041
  clear hy
  go_upto_region 15 with fail
  obtain ⟨W14, hW⟩ : ∃ W', W' = W13.setCell ⟨b, 1041, none⟩ (.int .u64 1012) := ⟨_, rfl⟩
  rw [← hW]
  have HB14 := Lib.hid (show Blk W14 b 99 (upd _ 1041 (.int .u64 1012)) 1048 by rw [hW]; exact HB13.out.set 1041 (by omega) _ rfl)
  have HK14 := Lib.hid (show ∀ k, k ≠ b → W14.heap[k]? = w.heap[k]? by rw [hW]; intro k hk; rw [Below.heap_setCell _ _ _ _ hk]; exact HK13.out k hk)
  have HZ14 := Lib.hid (show W14.heap.size = w.heap.size by rw [hW]; simp only [World.setCell, Array.size_modify]; exact HZ13.out)
  have HW14 := Lib.hid (show Below 0 w W14 by rw [hW]; exact HW13.out.setCell (p := ⟨b, 1041, none⟩) (Nat.zero_le _) _)
  clear hW HB13 HK13 HZ13 HW13 c f W13
  obtain ⟨y14, hy⟩ := HB14.out.isSome (i := 1042) (by omega)
  have c := (HB14.out.cell 1042).trans hy
  have f := HB14.out.frozen 1042
  clear hy
  go_upto_region 16 with fail
  obtain ⟨W15, hW⟩ : ∃ W', W' = W14.setCell ⟨b, 1042, none⟩ (.int .u64 4294977024) := ⟨_, rfl⟩
  rw [← hW]
  have HB15 := Lib.hid (show Blk W15 b 99 (upd _ 1042 (.int .u64 4294977024)) 1048 by rw [hW]; exact HB14.out.set 1042 (by omega) _ rfl)
  have HK15 := Lib.hid (show ∀ k, k ≠ b → W15.heap[k]? = w.heap[k]? by rw [hW]; intro k hk; rw [Below.heap_setCell _ _ _ _ hk]; exact HK14.out k hk)
  have HZ15 := Lib.hid (show W15.heap.size = w.heap.size by rw [hW]; simp only [World.setCell, Array.size_modify]; exact HZ14.out)
  have HW15 := Lib.hid (show Below 0 w W15 by rw [hW]; exact HW14.out.setCell (p := ⟨b, 1042, none⟩) (Nat.zero_le _) _)
  clear hW HB14 HK14 HZ14 HW14 c f W14
  obtain ⟨y15, hy⟩ := HB15.out.isSome (i := 1046) (by omega)
  have c := (HB15.out.cell 1046).trans hy
  have f := HB15.out.frozen 1046
  clear hy
  go_upto_region 17 with fail
  obtain ⟨W16, hW⟩ : ∃ W', W' = W15.setCell ⟨b, 1046, none⟩ (.int .i64 0) := ⟨_, rfl⟩
  rw [← hW]
  have HB16 := Lib.hid (show Blk W16 b 99 (upd _ 1046 (.int .i64 0)) 1048 by rw [hW]; exact HB15.out.set 1046 (by omega) _ rfl)
  have HK16 := Lib.hid (show ∀ k, k ≠ b → W16.heap[k]? = w.heap[k]? by rw [hW]; intro k hk; rw [Below.heap_setCell _ _ _ _ hk]; exact HK15.out k hk)
  have HZ16 := Lib.hid (show W16.heap.size = w.heap.size by rw [hW]; simp only [World.setCell, Array.size_modify]; exact HZ15.out)
  have HW16 := Lib.hid (show Below 0 w W16 by rw [hW]; exact HW15.out.setCell (p := ⟨b, 1046, none⟩) (Nat.zero_le _) _)
  clear hW HB15 HK15 HZ15 HW15 c f W15
  go_wp2_with fail
  go_ret
  exact ⟨⟨_, rfl⟩, HB16.out, HK16.out, HZ16.out, HW16.out⟩

theorem blk_alloc (w : World) (cs : Array Value) (T n : Nat) (h : cs.size = n) (h1 : cs.all (·.oneCell') = true) : Blk (w.alloc (.cells cs T)) w.heap.size T (fun i => cs[i]?) n :=
  ⟨cs, Go.Proofs.YtblpcpkkjbkakaaGreatDoor.heap_alloc_new _ _, ⟨h, fun i v hv => (Array.all_eq_true_iff_forall_mem.1 h1) v (Array.mem_of_getElem? hv)⟩, fun _ => rfl⟩
theorem Blk.of_heap {w w' : World} {b T : Nat} {R : Nat → Option Value} {n : Nat} (h : Blk w b T R n) (e : w'.heap[b]? = w.heap[b]?) : Blk w' b T R n := by
  obtain ⟨cs, h1, h2⟩ := h
  exact ⟨cs, e.trans h1, h2⟩
theorem size_alloc (w : World) (o : Obj) : (w.alloc o).heap.size = w.heap.size + 1 := by show (w.heap.push o).size = _; simp

theorem built101 (cs : Array Value) : Tryz.prog.built 101 [(0, .agg cs)] = Instr.fill (fun i => #[(0, 1048), (1048, 1)][i]?) Tryz.zeroCells101 [(0, .agg cs)] := by kernel_rfl
theorem built104 (cs : Array Value) : Tryz.prog.built 104 [(0, .agg cs)] = Instr.fill (fun i => #[(0, 1049)][i]?) Tryz.zeroCells104 [(0, .agg cs)] := by kernel_rfl
theorem zall99 : Tryz.zeroCells99.all (·.oneCell') = true := by
  have h : Tryz.zeroCells99.toList.all (·.oneCell') = true := by kernel_rfl
  rw [← Array.all_toList]; exact h
theorem zall101 : Tryz.zeroCells101.all (·.oneCell') = true := by
  have h : Tryz.zeroCells101.toList.all (·.oneCell') = true := by kernel_rfl
  rw [← Array.all_toList]; exact h
theorem zall104 : Tryz.zeroCells104.all (·.oneCell') = true := by
  have h : Tryz.zeroCells104.toList.all (·.oneCell') = true := by kernel_rfl
  rw [← Array.all_toList]; exact h
theorem zsize104 : Tryz.zeroCells104.size = 1049 := by kernel_rfl
theorem zsize99 : Tryz.zeroCells99.size = 1048 := by kernel_rfl
theorem zsize101 : Tryz.zeroCells101.size = 1049 := by kernel_rfl

theorem wpList_build_one {P : Program} {ops : Array Oper} {rest : List Oper} {o : Oper} {a : Act} {w : World} {Q : Exit → Act → World → Prop} (hg : o.guard = none) (t : TypeId) (x : Operand) (ho : o.op = .build t #[(0, x)])
    (v : Value) (hx : a.eval x = v) (cells : Array Value) (hc : P.built t [(0, v)] = some cells)
    (h : wpList P ops Q rest (a.put o.dst (.agg cells)) w) : wpList P ops Q (o :: rest) a w := by
  have hm : ((#[(0, x)] : Array (Nat × Operand)).map fun (i, x) => (i, a.eval x)).toList = [(0, v)] := by simp [hx]
  exact wpList_build hg t #[(0, x)] ho (by rw [hm, hc]; rfl) (by rw [hm, hc]; exact h)
theorem all_one {cs : Array Value} (h : cs.all (·.oneCell') = true) (i : Nat) (v : Value) (hv : cs[i]? = some v) : v.oneCell' = true := (Array.all_eq_true_iff_forall_mem.1 h) v (Array.mem_of_getElem? hv)

/-- The lexer's cells at its making: the reader's block rb. -/
noncomputable def lexR (rb : Nat) : Nat → Option Value := fun i => if i < 1048 then upd (initR (fun i => Tryz.zeroCells99[i]?) (.iface 130 (.pointer (some ⟨rb, 0, none⟩)))) 1041 (.int .u64 28) i else Tryz.zeroCells101[i]?

def LexPost (s : ByteArray) (w : World) (e : Ending) (w' : World) : Prop :=
  ∃ r : Array Value, e = .returned (.agg r) ∧ r.size = 1049 ∧ r.all (·.oneCell') = true ∧ (∀ i, r[i]? = lexR (w.heap.size + 2) i) ∧
    w'.heap[w.heap.size + 2]? = some (Obj.cells #[Value.string s, Value.int IntKind.i64 0, Value.int IntKind.i64 (-1)] 154) ∧ w'.heap.size = w.heap.size + 3 ∧ (∀ k, k < w.heap.size → w'.heap[k]? = w.heap[k]?) ∧ Below 0 w w'

set_option maxRecDepth 100000 in
set_option maxHeartbeats 4000000 in
theorem lexer_any (s : ByteArray) (w : World) : Calls Tryz.prog 41 #[.string s] w (LexPost s w) := by
  obtain ⟨m, hm⟩ : ∃ m, m = w.heap.size := ⟨_, rfl⟩
  go_enter Tryz.func41, Tryz.ntmps41
  go_upto_region 2 with fail
  obtain ⟨W2, hW2⟩ : ∃ W2, W2 = (w.alloc (Obj.cells Tryz.zeroCells101 101)).alloc (Obj.cells Tryz.zeroCells99 99) := ⟨_, rfl⟩
  simp only [size_alloc, ← hm]
  rw [← hW2]
  have hz2 : W2.heap.size = m + 2 := by rw [hW2, size_alloc, size_alloc, hm]
  have hl2 : Blk W2 m 101 (fun i => Tryz.zeroCells101[i]?) 1049 := by
    rw [hW2, hm]
    exact (blk_alloc w _ _ _ zsize101 zall101).of_heap (Below.heap_alloc _ _ _ (by rw [size_alloc]; omega))
  have hs2 : Blk W2 (m + 1) 99 (fun i => Tryz.zeroCells99[i]?) 1048 := by
    rw [hW2, hm, ← size_alloc]
    exact blk_alloc _ _ _ _ zsize99 zall99
  have hk2 : ∀ k, k < m → W2.heap[k]? = w.heap[k]? := fun k hk => by
    rw [hW2, Below.heap_alloc _ _ _ (by rw [size_alloc]; omega), Below.heap_alloc _ _ _ (by omega)]
  have hb2 : Below 0 w W2 := by rw [hW2]; exact (((Below.refl 0 w).alloc (Nat.zero_le _) _).alloc (Nat.zero_le _) _)
  clear hW2
  have HB2 := Lib.hid hb2; clear hb2
  have HL2 := Lib.hid hl2; clear hl2
  have HS2 := Lib.hid hs2; clear hs2
  have HK2 := Lib.hid hk2; clear hk2
  have HM := Lib.hid hm; clear hm
  go_wp2_with (go_at_call 65; refine (newReader_any _ _).mono ?_; rintro e w' ⟨rfl, rfl⟩)
  obtain ⟨W3, hW3⟩ : ∃ W3, W3 = W2.alloc (Obj.cells #[Value.string s, Value.int IntKind.i64 0, Value.int IntKind.i64 (-1)] 154) := ⟨_, rfl⟩
  rw [← hW3]
  have hl3 : Blk W3 m 101 (fun i => Tryz.zeroCells101[i]?) 1049 := by rw [hW3]; exact HL2.out.of_heap (Below.heap_alloc _ _ _ (by omega))
  have hs3 : Blk W3 (m + 1) 99 (fun i => Tryz.zeroCells99[i]?) 1048 := by rw [hW3]; exact HS2.out.of_heap (Below.heap_alloc _ _ _ (by omega))
  have hr3 : W3.heap[m + 2]? = some (Obj.cells #[Value.string s, Value.int IntKind.i64 0, Value.int IntKind.i64 (-1)] 154) := by rw [hW3, ← hz2]; exact heap_alloc_new _ _
  have hk3 : ∀ k, k < m → W3.heap[k]? = w.heap[k]? := fun k hk => by rw [hW3, Below.heap_alloc _ _ _ (by omega)]; exact HK2.out k hk
  have hz3 : W3.heap.size = m + 3 := by rw [hW3, size_alloc, hz2]
  have HB3 := Lib.hid (show Below 0 w W3 by rw [hW3]; exact HB2.out.alloc (Nat.zero_le _) _)
  clear hW3 HB2 HL2 HS2 HK2 hz2 W2
  have HL3 := Lib.hid hl3; clear hl3
  have HS3 := Lib.hid hs3; clear hs3
  have HR3 := Lib.hid hr3; clear hr3
  have HK3 := Lib.hid hk3; clear hk3
  have HZ3 := Lib.hid hz3; clear hz3
  refine (init_any (m + 1) (m + 2) _ W3 HS3.out).mono ?_
  rintro e W4 ⟨⟨x, rfl⟩, hs4, hk4, hz4, hb4⟩
  have HB4 := Lib.hid (HB3.out.trans hb4); clear hb4 HB3
  have c41 : W4.cell? ⟨m + 1, 1041, none⟩ = some (.int .u64 1012) := by rw [hs4.cell]; simp [initR, upd]
  have f41 := hs4.frozen 1041
  have hl4 : Blk W4 m 101 (fun i => Tryz.zeroCells101[i]?) 1049 := HL3.out.of_heap (hk4 _ (by omega))
  have HS4 := Lib.hid hs4; clear hs4
  have HK4 := Lib.hid hk4; clear hk4
  have HZ4 := Lib.hid hz4; clear hz4
  have HL4 := Lib.hid hl4; clear hl4
  go_upto_region 4 with fail
  obtain ⟨W5, hW5⟩ : ∃ W5, W5 = W4.setCell ⟨m + 1, 1041, none⟩ (.int .u64 28) := ⟨_, rfl⟩
  rw [← hW5]
  have hs5 := HS4.out.set 1041 (by omega) (.int .u64 28) rfl
  rw [← hW5] at hs5
  have hl5 : Blk W5 m 101 (fun i => Tryz.zeroCells101[i]?) 1049 := by rw [hW5]; exact HL4.out.of_heap (Below.heap_setCell _ _ _ _ (by show m ≠ m + 1; omega))
  have hk5 : ∀ k, k ≠ m + 1 → W5.heap[k]? = W3.heap[k]? := fun k hk => by rw [hW5, Below.heap_setCell _ _ _ _ hk]; exact HK4.out k hk
  have hz5 : W5.heap.size = m + 3 := by rw [hW5]; simp only [World.setCell, Array.size_modify]; exact HZ4.out.trans HZ3.out
  have HB5 := Lib.hid (show Below 0 w W5 by rw [hW5]; exact HB4.out.setCell (p := ⟨m + 1, 1041, none⟩) (Nat.zero_le _) _)
  clear hW5 HB4 HS4 HL4 HK4 HZ4 c41 f41
  obtain ⟨cs, g1, g2, g3, g4⟩ := hs5.all
  obtain ⟨lc, l1, l2, l3, l4⟩ := hl5.all
  obtain ⟨r, r1, r2, r3⟩ := fill_one (fun i => #[(0, 1048), (1048, 1)][i]?) Tryz.zeroCells101 cs 1048 rfl g2 (by rw [zsize101]; omega)
  have hbd := fun W => run_build (P := Tryz.prog) W 101 #[(0, .agg cs)] r ((built101 cs).trans r1)
  have HK5 := Lib.hid hk5; clear hk5
  have HZ5 := Lib.hid hz5; clear hz5
  have G := Lib.hid (And.intro g1 (And.intro g2 (And.intro g3 g4)))
  have L := Lib.hid (And.intro l1 (And.intro l2 (And.intro l3 l4)))
  have RR := Lib.hid (And.intro r1 (And.intro r2 r3))
  clear g3 g4 l1 l2 l3 l4 r1 r2 r3 hs5 hl5
  go_wp2_with fail
  refine wp_load_row 99 (Operand.tmp 3) rfl (m + 1) rfl 99 cs (0, 0) _ g1 Tryz.underlying99 rfl (by rw [g2]; kernel_rfl) ?_
  go_step
  obtain ⟨r1, r2, r3⟩ := RR.out
  refine wpList_build_one rfl 101 (Operand.tmp 9) rfl (.agg cs) rfl r ((built101 cs).trans r1) ?_
  obtain ⟨l1, l2, l3, l4⟩ := L.out
  have hrs : r.size = 1049 := by rw [r2, zsize101]
  have hra : r.all (·.oneCell') = true := by
    rw [Array.all_eq_true_iff_forall_mem]
    intro v hv
    obtain ⟨i, hi, rfl⟩ := Array.getElem_of_mem hv
    have h3 := r3 i
    rw [Array.getElem?_eq_getElem hi] at h3
    split at h3
    · exact all_one G.out.2.2.1 i _ h3.symm
    · exact all_one zall101 i _ h3.symm
  refine wpList_store_row rfl 101 (Operand.tmp 2) (Operand.tmp 10) rfl m r rfl rfl 101 lc l1 (by rw [hrs]; kernel_rfl) (by rw [l2, hrs]) hra ?_
  obtain ⟨W6, hW6⟩ : ∃ W6, W6 = W5.setRow m r := ⟨_, rfl⟩
  rw [← hW6]
  have hw6 : W6.heap[m]? = some (.cells r 101 (0, 0)) := by rw [hW6]; exact setRow_heap W5 m lc r 101 _ l1
  have hk6 : ∀ k, k ≠ m → W6.heap[k]? = W5.heap[k]? := fun k hk => by rw [hW6]; unfold World.setRow; rw [Array.getElem?_modify, if_neg (fun e => hk e.symm)]
  have hz6 : W6.heap.size = m + 3 := by rw [hW6, size_setRow]; exact HZ5.out
  have hm := HM.out
  have hb6 : Below 0 w W6 := by rw [hW6]; exact ⟨HB5.out.os, HB5.out.tape, HB5.out.output, by rw [size_setRow]; exact HB5.out.size, fun k hk => absurd hk (by omega)⟩
  clear hW6
  have hkk : ∀ k, k < m → W6.heap[k]? = w.heap[k]? := fun k hk => by rw [hk6 k (by omega), HK5.out k (by omega)]; exact HK3.out k hk
  have hrr : W6.heap[m + 2]? = some (Obj.cells #[Value.string s, Value.int IntKind.i64 0, Value.int IntKind.i64 (-1)] 154) := by rw [hk6 _ (by omega), HK5.out _ (by omega)]; exact HR3.out
  have hri : ∀ i, r[i]? = lexR (m + 2) i := fun i => by
    rw [r3 i]
    unfold lexR
    split
    · exact G.out.2.2.2 i
    · rfl
  have HP := Lib.hid (show LexPost s w (.returned (.agg r)) W6 from ⟨r, rfl, hrs, hra, by rw [← hm]; exact hri, by rw [← hm]; exact hrr, by rw [← hm]; exact hz6, by rw [← hm]; exact hkk, hb6⟩)
  clear hb6 hkk hrr hri hk6 hz6 hm G L RR r1 r2 r3 l1 l2 l3 l4 g1 g2 hbd
  go_wp2_with fail
  refine bodyPost_ret_by (results_cell_row rfl _ _ m 101 r (0, 0) _ rfl hw6 Tryz.underlying101 rfl (by rw [hrs]; kernel_rfl)) rfl ?_
  exact HP.out
end Go.Proofs.YtblpcpkkjbkakaaGreatDoor
/- The parser at its making: ready at the text's beginning. -/
namespace Go.Proofs.YtblpcpkkjbkakaaGreatDoor
open Go Go.RowKit
set_option linter.unusedVariables false
set_option linter.unusedSimpArgs false

theorem zbuf : (Tryz.zeroCells99.toList.drop 1).take 1025 = List.replicate 1025 (.int .u8 0) := by kernel_rfl
theorem zbuf_at (i : Nat) (h : i < 1025) : Tryz.zeroCells99[1 + i]? = some (.int .u8 0) := by
  have h1 : ((Tryz.zeroCells99.toList.drop 1).take 1025)[i]? = some (.int .u8 0) := by rw [zbuf, List.getElem?_replicate, if_pos h]
  rw [List.getElem?_take, if_pos h, List.getElem?_drop] at h1
  simpa using h1
theorem ztail : (Tryz.zeroCells99.toList.drop 1033).take 3 = [.slice none 0 0, .int .i64 0, .int .i8 0] := by kernel_rfl
theorem z37 : Tryz.zeroCells99[1037]? = some (.int .i64 0) := by kernel_rfl
theorem z33 : Tryz.zeroCells99[1033]? = some (.slice none 0 0) := by kernel_rfl
theorem z34 : Tryz.zeroCells99[1034]? = some (.int .i64 0) := by kernel_rfl
theorem z35 : Tryz.zeroCells99[1035]? = some (.int .i8 0) := by kernel_rfl
theorem z43 : Tryz.zeroCells99[1043]? = some .nilFunc := by kernel_rfl
theorem z45 : Tryz.zeroCells99[1045]? = some (.int .i64 0) := by kernel_rfl
theorem z47 : Tryz.zeroCells99[1047]? = some (.int .i64 0) := by kernel_rfl
theorem z48 : Tryz.zeroCells101[1048]? = some (.string ⟨#[]⟩) := by kernel_rfl

theorem lexR_z (rb k : Nat) (h : k = 1033 ∨ k = 1034 ∨ k = 1035 ∨ k = 1037 ∨ k = 1043 ∨ k = 1045 ∨ k = 1047 ∨ (1 < k ∧ k < 1026)) : lexR rb k = Tryz.zeroCells99[k]? := by
  unfold lexR initR upd
  simp only [if_pos (show k < 1048 by omega)]
  repeat rw [if_neg (by omega)]

theorem lex_fok (rb : Nat) : FOk (lexR rb) where
  c37 := by rw [lexR_z rb _ (by omega), z37]; rfl
  c38 := by simp [lexR, initR, upd]
  c41 := by simp [lexR, initR, upd]
  c42 := by simp [lexR, initR, upd]
  c43 := by rw [lexR_z rb _ (by omega), z43]
  c45 := by rw [lexR_z rb _ (by omega), z45]; rfl
  c46 := by simp [lexR, initR, upd]
  c47 := by rw [lexR_z rb _ (by omega), z47]; rfl
theorem lex_ok (s : ByteArray) (rb : Nat) (hs : s.size ≤ 2000) : Ok s rb (lexR rb) 0 0 0 0 where
  src := by simp [lexR, initR, upd]
  buf := fun i hi => by
    by_cases h : i = 0
    · subst h; exact ⟨128, by simp [lexR, initR, upd]⟩
    · exact ⟨0, by rw [lexR_z rb _ (by omega), zbuf_at i hi]; rfl⟩
  own := fun j hj => absurd hj (by omega)
  guard := by simp [lexR, initR, upd]
  cpos := by simp [lexR, initR, upd]
  cen := by simp [lexR, initR, upd]
  coff := by simp [lexR, initR, upd]
  cline := by simp [lexR, initR, upd]
  ccol := by simp [lexR, initR, upd]
  clast := by simp [lexR, initR, upd]
  cla := by simp [lexR, initR, upd]
  hpos := by omega
  hen := by omega
  hoff := by omega
  hs := hs
  hla := by omega
  hla1 := by omega

def ParserPost (s : ByteArray) (w : World) (e : Ending) (w' : World) : Prop :=
  e = .returned (.pointer (some ⟨w.heap.size + 3, 0, none⟩)) ∧ Rdy s (w.heap.size + 2) w.heap.size (w.heap.size + 3) (lexR (w.heap.size + 2)) 0 w' ∧ Below w.heap.size w w'

set_option maxRecDepth 100000 in
set_option maxHeartbeats 4000000 in
theorem newParser_any (s : ByteArray) (w : World) (hs : s.size ≤ 2000) : Calls Tryz.prog 26 #[.string s] w (ParserPost s w) := by
  obtain ⟨n, hn⟩ : ∃ n, n = w.heap.size := ⟨_, rfl⟩
  have HN := Lib.hid hn; clear hn
  go_enter Tryz.func26, Tryz.ntmps26
  go_upto_region 1 with fail
  go_step
  go_step
  go_upto_region 77 with (go_at_call 41; refine (lexer_any s _).mono ?_)
  rintro e W1 ⟨r, rfl, hr1, hra, hri, hrr, hsz, hkk, hb⟩
  obtain ⟨q, q1, q2, q3⟩ := fill_one (fun i => #[(0, 1049)][i]?) Tryz.zeroCells104 r 1049 rfl hr1 (by rw [zsize104]; omega)
  have hq : ∀ i, q[i]? = lexR (w.heap.size + 2) i := fun i => by
    rw [q3 i]
    split
    · exact hri i
    · rename_i h
      rw [Array.getElem?_eq_none (by rw [zsize104]; omega), ← hri i, Array.getElem?_eq_none (by omega)]
  have hqa : q.all (·.oneCell') = true := by
    rw [Array.all_eq_true_iff_forall_mem]
    intro v hv
    obtain ⟨i, hi, rfl⟩ := Array.getElem_of_mem hv
    have h3 := q3 i
    rw [Array.getElem?_eq_getElem hi] at h3
    split at h3
    · exact all_one hra i _ h3.symm
    · exact all_one zall104 i _ h3.symm
  have hfin : ParserPost s w (.returned (.pointer (some ⟨W1.heap.size, 0, none⟩))) (W1.alloc (.cells q 104)) := by
    have hw2 : (W1.alloc (.cells q 104)).heap[w.heap.size + 3]? = some (.cells q 104) := by rw [← hsz]; exact Go.Proofs.YtblpcpkkjbkakaaGreatDoor.heap_alloc_new _ _
    have hkk2 : ∀ k, k < w.heap.size + 3 → (W1.alloc (.cells q 104)).heap[k]? = W1.heap[k]? := fun k hk => Below.heap_alloc _ _ _ (by omega)
    refine ⟨by rw [hsz], .inl ⟨rfl, by simp [lexR, initR, upd], none, lexR (w.heap.size + 2), 0, 0, 0, [], ?_, lex_ok s _ hs, by simp [Tk, lexR, initR, upd], rfl, fun _ _ => rfl, by omega, by omega, -1, ?_⟩, ?_⟩
    · refine ⟨by omega, .slice none 0 0, 0, ⟨q, hw2, ?_, ?_, ?_, fun i _ => hq i⟩, World.ownsRow_nil _ _ _ _, by simp [Value.ownBlock]⟩
      · rw [hq, lexR_z _ _ (by omega), z33]
      · rw [hq, lexR_z _ _ (by omega), z34]
      · rw [hq, lexR_z _ _ (by omega), z35]
    · rw [hkk2 _ (by omega), hrr]; rfl
    · exact ⟨hb.os, hb.tape, hb.output, by rw [size_alloc]; omega, fun k hk => by rw [hkk2 k (by omega)]; exact hkk k hk⟩
  have HF := Lib.hid hfin
  clear hfin hq hqa q3 q2 hri hrr hkk hb hra
  dsimp only
  go_step
  refine wpList_build_one rfl 104 (Operand.tmp 4) rfl (.agg r) rfl q ((built104 r).trans q1) ?_
  clear q1
  go_wp2_with fail
  go_ret
  have := HF.out
  rw [hsz] at this
  exact this

end Go.Proofs.YtblpcpkkjbkakaaGreatDoor
