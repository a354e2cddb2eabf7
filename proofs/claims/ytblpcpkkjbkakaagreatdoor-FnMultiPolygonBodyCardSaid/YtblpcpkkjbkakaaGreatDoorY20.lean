/- Lemmas towards the seat's laws: 1 texts joined. -/
import Derived.Test.YtblpcpkkjbkakaaGreatDoorY19
/- The token's text. -/
namespace Go.Proofs.YtblpcpkkjbkakaaGreatDoor
open Go Go.RowKit
set_option linter.unusedVariables false
set_option linter.unusedSimpArgs false

def TextPost (s : ByteArray) (rb B b : Nat) (F : Nat → Option Value) (t E : Nat) (w : World) (e : Ending) (w' : World) : Prop :=
  e = .returned (.string ⟨(seg s t E).toArray⟩) ∧ Toke s rb B b F t E w' ∧ Fr B b rb w w'

theorem slice88n (b l h : Nat) (h1 : l ≤ h) (h2 : h ≤ 1024) (W : World) :
    (Instr.sliceAt 88 (.pointer (some ⟨b, 1, none⟩)) (some (.int .i64 l)) (some (.int .i64 h)) none).run Tryz.prog W = .ok (.slice (some ⟨b, 1 + l, none⟩) (h - l) (1025 - l)) W := slice88 b l h h1 (by omega) (by omega) W

set_option maxRecDepth 100000 in
set_option maxHeartbeats 4000000 in
theorem tokenText_any (s : ByteArray) (rb B b : Nat) (F : Nat → Option Value) (t E : Nat) (w : World) (h : Toke s rb B b F t E w) :
    Calls Tryz.prog 68 #[.pointer (some ⟨b, 0, none⟩)] w (TextPost s rb B b F t E w) := by
  obtain ⟨R, pos, en, off, tb, hI, hok, hT, hq, hFR, hrb, hne, ⟨pr, hr⟩, h37⟩ := h
  obtain ⟨tp, ht1, ht2, ht3, ht4⟩ := hT
  obtain ⟨te, hte⟩ : ∃ te : Nat, te = pos - nl s E := ⟨_, rfl⟩
  rw [← hte] at ht2 h37
  have hnx : nx s E = E + nl s E := by unfold nx nl; split <;> omega
  have hla := hok.hla
  have hpos := hok.hpos
  have hen := hok.hen
  have hof := hok.hoff
  have hs := hok.hs
  have hB := hI.1
  have hBW : B ≤ w.heap.size := Nat.le_trans hB (Nat.le_of_lt hI.lt)
  have hE : off + te = E := by omega
  have htp : te ≤ pos := by omega
  have c36 := at_cell hI ht1 (by omega)
  have c37 := at_cell hI ((hFR 1037 (by omega)).trans h37) (by omega)
  have hsg := seg_length s (off + tp) E (by omega)
  have hwn : (seg s (off + tp) E).length = te - tp := by rw [hsg]; omega
  have hown : ∀ j (hj : j < (seg s (off + tp) E).length), R (1 + tp + j) = some (.int .u8 (seg s (off + tp) E)[j].toNat) := by
    intro j hj
    obtain ⟨hh, h1⟩ := seg_get s (off + tp) E j (by omega) hj
    obtain ⟨h2, h3⟩ := hok.own (tp + j) (by omega)
    rw [h1, Nat.add_assoc, h3]
    simp only [Nat.add_assoc]
  have htl : tb.length = off + tp - t := by rw [ht4, seg_length s t (off + tp) (by omega)]
  have hcat : tb ++ seg s (off + tp) E = seg s t E := by rw [ht4, seg_append s t (off + tp) E ht3 (by omega)]
  have hlt0 : ((te : Int) < (tp : Int)) = False := eq_false (by omega)
  have hsl := fun W => slice88n b tp te ht2 (by omega) W
  have hrd : ∀ W : World, IsB B b R tb W → ∀ j, j < te - tp → ∀ v, R (1 + tp + j) = some v → W.cell? ⟨b, 1 + tp + j, none⟩ = some v := fun W hW j hj v hv => at_cell hW hv (by omega)
  have hcv : ∀ W : World, IsB B b R tb W → (convert 85 9 (.slice (some ⟨b, 1 + tp, none⟩) (te - tp) (1025 - tp))).run Tryz.prog W = .ok (.string ⟨(seg s (off + tp) E).toArray⟩) W := by
    intro W hW
    rw [← hwn]
    refine run_convert_bytes_back W 85 9 5 ⟨b, 1 + tp, none⟩ (1025 - tp) _ Tryz.underlying85 Tryz.underlying5 Tryz.underlying9 (fun j hj => ?_)
    have hadd : (⟨b, 1 + tp, none⟩ : Addr).add j = ⟨b, 1 + tp + j, none⟩ := by unfold Addr.add; split <;> simp_all
    rw [hadd]
    exact at_cell hW (hown j hj) (by omega)
  have hfin : ∀ W, IsB B b R tb W → Fr B b rb w W → W.heap[rb]? = w.heap[rb]? → Toke s rb B b F t E W := fun W h1 h2 h3 => ⟨R, pos, en, off, tb, h1, hok, ⟨tp, ht1, by omega, ht3, ht4⟩, hq, hFR, hrb, hne, ⟨pr, h3.trans hr⟩, by rw [h37, hte]⟩
  have HFIN := Lib.hid hfin; clear hfin
  have HCV := Lib.hid hcv; clear hcv
  have HCAT := Lib.hid hcat; clear hcat
  have HOWN := Lib.hid hown; clear hown
  have HI := Lib.hid hI; clear hI
  have HR := Lib.hid hr; clear hr
  have hfin2 : ∀ W, IsB B b R (seg s t E) W → W.heap[rb]? = w.heap[rb]? → Toke s rb B b F t E (W.setCell ⟨b, 1036, none⟩ (.int .i64 te)) := fun W h1 h3 =>
    ⟨upd R 1036 (.int .i64 te), pos, en, off, seg s t E, h1.set 1036 (by omega) (by rw [ht1]; rfl) _, hok.same (fun j hj => upd_ne _ _ _ _ (by omega)), ⟨te, upd_at _ _ _, by omega, by omega, by rw [hE]⟩, hq, fun j hj => (upd_ne _ _ _ _ (by omega)).trans (hFR j hj), hrb, hne, ⟨pr, (Below.heap_setCell _ _ _ _ hne).trans (h3.trans HR.out)⟩, by rw [h37, hte]⟩
  have HFIN2 := Lib.hid hfin2; clear hfin2
  have HOK := Lib.hid hok; clear hok
  have HFR := Lib.hid hFR; clear hFR
  have h1036 := ht1
  have HT4 := Lib.hid ht4; clear ht4
  have HT1 := Lib.hid ht1; clear ht1
  have H37 := Lib.hid h37; clear h37 h1036
  clear hrd hq hte hnx hsg
  go_enter Tryz.func68, Tryz.ntmps68
  go_upto_region 3 with fail
  go_quiet (fail)
  go_upto_region 5 with fail
  obtain ⟨W1, hW1⟩ : ∃ W1, W1 = w.drewN nq := ⟨_, rfl⟩
  rw [← hW1]
  have hI1 : IsB B b R tb W1 := by rw [hW1]; exact HI.out.drewN nq
  have f1 : Fr B b rb w W1 := by rw [hW1]; exact (Fr.refl B b rb w).drewN nq
  have hr1 : W1.heap[rb]? = w.heap[rb]? := by rw [hW1]; rfl
  clear hW1 c36 c37
  have hlen : (Lib.byteCells tb).length = off + tp - t := by rw [Lib.byteCells_length]; exact htl
  have HI1 := Lib.hid hI1; clear hI1
  by_cases h0 : off + tp - t = 0
  · have heq : (((off + tp - t : Nat) : Int) == 0) = true := by rw [h0]; rfl
    have ht : off + tp = t := by omega
    go_wp2_with (go_at_call 96; refine (Tryz.Buffer_Len_at 104 R B b 1033 (Lib.byteCells tb) _ HI1.out).mono ?_; rintro e w' ⟨rfl, n, rfl⟩; rw [hlen])
    obtain ⟨W2, hW2⟩ : ∃ W2, W2 = W1.drewN n := ⟨_, rfl⟩
    rw [← hW2]
    have hI2 : IsB B b R tb W2 := by rw [hW2]; exact HI1.out.drewN n
    have f2 : Fr B b rb w W2 := by rw [hW2]; exact f1.drewN n
    have hr2 : W2.heap[rb]? = w.heap[rb]? := by rw [hW2]; exact hr1
    clear hW2 HI1 f1 hr1
    have c36 := at_cell hI2 HT1.out (by omega)
    have c37 := at_cell hI2 ((HFR.out 1037 (by omega)).trans H37.out) (by omega)
    have hcv := HCV.out W2.drew hI2.drew
    have HI2 := Lib.hid hI2; clear hI2
    go_still_tail 11, (by kernel_rfl)
    change wpList _ _ _ _ _ W2.drew
    go_wp2_with fail
    go_ret
    refine ⟨?_, HFIN.out _ HI2.out.drew (f2.drewN 1) hr2, f2.drewN 1⟩
    rw [← ht]; rfl
  · have heq : (((off + tp - t : Nat) : Int) == 0) = false := beq_false_of_ne (by omega)
    go_wp2_with (go_at_call 96; refine (Tryz.Buffer_Len_at 104 R B b 1033 (Lib.byteCells tb) _ HI1.out).mono ?_; rintro e w' ⟨rfl, n, rfl⟩; rw [hlen])
    obtain ⟨W2, hW2⟩ : ∃ W2, W2 = W1.drewN n := ⟨_, rfl⟩
    rw [← hW2]
    have hI2 : IsB B b R tb W2 := by rw [hW2]; exact HI1.out.drewN n
    have f2 : Fr B b rb w W2 := by rw [hW2]; exact f1.drewN n
    have hr2 : W2.heap[rb]? = w.heap[rb]? := by rw [hW2]; exact hr1
    clear hW2 HI1 f1 hr1
    have c36 := at_cell hI2 HT1.out (by omega)
    have c37 := at_cell hI2 ((HFR.out 1037 (by omega)).trans H37.out) (by omega)
    have hBW2 : B ≤ W2.drew.heap.size := Nat.le_trans hB (Nat.le_of_lt hI2.lt)
    have HW := Lib.hid (write_own B b R tb (seg s (off + tp) E) (1 + tp) (te - tp) (1025 - tp) W2.drew hI2.drew hBW2 hwn HOWN.out (by omega) (by omega))
    clear hI2 hBW2
    go_still_tail 15, (by kernel_rfl)
    change wpList _ _ _ _ _ W2.drew
    go_wp2_with (go_at_call 97; refine HW.out.mono ?_)
    rintro e W3 ⟨rfl, hI3, hb3, ho3⟩
    rw [HCAT.out] at hI3
    have hr3 : W3.heap[rb]? = w.heap[rb]? := (ho3 rb _ (hr2.trans HR.out) (fun e => hne (Option.some.inj e)) (fun c fz e => by simp at e)).trans HR.out.symm
    have f3 : Fr B b rb w W3 := (f2.drewN 1).trans (Fr.of hb3 ho3)
    clear hb3 ho3 c36 c37 HW f2 hr2
    have c36 := at_cell hI3 HT1.out (by omega)
    have c37 := at_cell hI3 ((HFR.out 1037 (by omega)).trans H37.out) (by omega)
    have f36 := hI3.notFrozen 1036
    have htk := HFIN2.out W3 hI3 hr3
    have hI4 : IsB B b (upd R 1036 (.int .i64 te)) (seg s t E) (W3.setCell ⟨b, 1036, none⟩ (.int .i64 te)) := hI3.set 1036 (by omega) (by rw [HT1.out]; rfl) _
    have HI4 := Lib.hid hI4; clear hI4 hI3
    go_wp2_with fail
    refine (Tryz.Buffer_String_at 104 _ B b 1033 (seg s t E) _ HI4.out).mono ?_
    rintro e w' ⟨rfl, n5, rfl⟩
    go_wp2_with fail
    go_ret
    refine ⟨rfl, ?_, (f3.set hB _ _).drewN n5⟩
    obtain ⟨R, pos, en, off, tb, h1, h2⟩ := htk
    exact ⟨R, pos, en, off, tb, h1.drewN n5, h2⟩

end Go.Proofs.YtblpcpkkjbkakaaGreatDoor
