/- Lemmas towards the seat's laws: 1 texts joined. -/
import Derived.Test.YtblpcpkkjbkakaaGreatDoorY12
import Derived.LaidEql
/- The next character where the scanner's bytes are used up. -/
namespace Go.Proofs.YtblpcpkkjbkakaaGreatDoor
open Go Go.RowKit
set_option linter.unusedVariables false
set_option linter.unusedSimpArgs false

theorem loop2 {P : Program} {c : Code} {Q : Exit → Act → World → Prop} {a : Act} {w : World}
    (h : ∀ RN : Act → World → Prop, RowKit.Hid (∀ a' w', c.wp P (Exit.then (fun _ _ => False) Q) a' w' → RN a' w') → c.wp P (Exit.then RN Q) a w) : (Code.loop c).wp P Q a w :=
  wp_loop_rounds 2 (by rw [rounds_succ]; exact h _ (Lib.hid fun a' w' h' => by rw [rounds_succ]; exact h'))

theorem neq_same (W : World) (a : Addr) : (binOp .neq 37 (.iface 215 (.pointer (some a))) (.iface 215 (.pointer (some a)))).run Tryz.prog W = .ok (.bool false) W := by
  have hc : (Tryz.prog.info? 215).map (·.comparable) = some true := by kernel_rfl
  obtain ⟨i, hi, hcmp⟩ := Option.map_eq_some_iff.1 hc
  have he : (Tryz.prog.info? 217).isSome = true := by kernel_rfl
  obtain ⟨j, hj⟩ := Option.isSome_iff_exists.1 he
  simp only [binOp]
  simp [Op.equal, Op.maxDepth, run_equalIn_iface_ptr_same W 9998 a Tryz.underlying37 Tryz.underlying215 hi hcmp hj]

set_option maxRecDepth 100000 in
set_option maxHeartbeats 4000000 in
theorem next_edge (s : ByteArray) (rb B b : Nat) (F R : Nat → Option Value) (en off la : Nat) (tb : List UInt8) (T : Option Nat) (w : World)
    (hI : IsB B b R tb w) (hk : Ok s rb R en en off la) (hT : Tk s R tb en off T) (hF : ∀ k, 1037 ≤ k → R k = F k) (hrb : B ≤ rb) (hne : rb ≠ b)
    (hr : ∃ p : Int, w.heap[rb]? = some (.cells #[.string s, .int .i64 (off + en : Nat), .int .i64 p] 154 (0, 0))) (ha : Plain s) (hG : Gl w) (hB9 : 9 ≤ B) :
    Calls Tryz.prog 86 #[.pointer (some ⟨b, 0, none⟩)] w (NextPost s rb B b F (off + en) T w) := by
  obtain ⟨c0, c26, c27, c28, c32⟩ := cells hI hk
  have c1 : w.cell? ⟨b, 1 + en, none⟩ = _ := at_cell hI hk.guard (by have := hk.hen; omega)
  have hen := hk.hen
  have hoff := hk.hoff
  have hs := hk.hs
  have hB := hI.1
  have hlt := hI.lt
  have hw4 : IntKind.i64.wrap ((en : Int) + 4) = en + 4 := by rw [IntKind.wrap_i64]; omega
  have hq4 : ((en : Int) < (en : Int) + 4) = True := eq_true (by omega)
  have hsl := fun W => slice88 b en en (Nat.le_refl _) (by omega) (by omega) W
  rw [Nat.sub_self] at hsl
  have hsl0 : ∀ W, (Instr.sliceAt 88 (.pointer (some ⟨b, 1, none⟩)) (some (.int .i64 0)) none none).run Tryz.prog W = .ok (.slice (some ⟨b, 1, none⟩) 1025 1025) W := fun W => slice88l b 0 (by omega) W
  have hce : ∀ d dLen dCap a c W, (Builtin.copy_ #[85, 85] 3 #[.slice d dLen dCap, .slice a 0 c]).run Tryz.prog W = .ok (goInt 0) W := fun d dLen dCap a c W => run_copy_none W 85 85 3 5 d _ dLen dCap 0 c Tryz.underlying85 info5' (by simp)
  have HT := Lib.hid hT; clear hT
  have HK := Lib.hid hk; clear hk
  have HF := Lib.hid hF; clear hF
  have HR := Lib.hid hr; clear hr
  have HG := Lib.hid hG; clear hG
  have HA := Lib.hid ha; clear ha
  go_enter Tryz.func86, Tryz.ntmps86
  go_wp2_with fail
  go_quiet (fail)
  revert nq; intro n1
  go_wp2_with fail
  refine loop2 (fun RN HRN => ?_)
  go_wp2_with fail
  go_quiet (first | (refine (fullRune_none _ _ _).mono ?_; rintro e w' ⟨rfl, rfl⟩; exact ⟨rfl, _, rfl⟩))
  revert nq; intro n2
  obtain ⟨W, hW⟩ : ∃ W, W = (w.drewN n1).drewN n2 := ⟨_, rfl⟩
  rw [← hW]
  have hIW : IsB B b R tb W := by rw [hW]; exact (hI.drewN _).drewN _
  have hfW : Fr B b rb w W := by rw [hW]; exact ((Fr.refl B b rb w).drewN _).drewN _
  have hrW : W.heap[rb]? = w.heap[rb]? := by rw [hW]; rfl
  clear hW n1 n2 c0 c26 c27 c28 c32 c1
  have HI := Lib.hid hI; clear hI
  obtain ⟨c0, c26, c27, c28, c32⟩ := cells hIW HK.out
  obtain ⟨v36, h36⟩ : ∃ v : Int, R 1036 = some (.int .i64 v) := by
    have := HT.out
    cases T with
    | none => exact ⟨_, this⟩
    | some t => obtain ⟨tp, h1, _⟩ := this; exact ⟨_, h1⟩
  have c36 := at_cell hIW h36 (by omega)
  go_upto_if 50 with fail
  go_cut [] (fun wx => Mid s rb B b en off R T w wx)
  case first =>
    have hT := HT.out
    cases T with
    | none =>
      have hv : v36 = -1 := by have h := h36.symm.trans hT; simpa using h
      subst hv
      go_wp2_with fail
      go_meet
      exact ⟨R, tb, hIW, fun _ _ => rfl, hT, hfW, hrW⟩
    | some t =>
      obtain ⟨tp, ht1, ht2, ht3, ht4⟩ := hT
      have hv : v36 = tp := by have h := h36.symm.trans ht1; simpa using h
      subst hv
      have hsl2 := fun W => slice88 b tp en ht2 (by omega) (by omega) W
      have f36 := hIW.notFrozen 1036
      have hge : ((0 : Int) ≤ tp) = True := eq_true (by omega)
      go_wp2_with fail
      have hsg := seg_length s (off + tp) (off + en) hoff
      have hwn : (seg s (off + tp) (off + en)).length = en - tp := by rw [hsg]; omega
      have hsrc : ∀ j (hj : j < (seg s (off + tp) (off + en)).length), R (1 + tp + j) = some (.int .u8 (seg s (off + tp) (off + en))[j].toNat) := by
        intro j hj
        obtain ⟨hh, h1⟩ := seg_get s (off + tp) (off + en) j hoff hj
        obtain ⟨h2, h3⟩ := HK.out.own (tp + j) (by omega)
        rw [h1, Nat.add_assoc, h3]
        simp only [Nat.add_assoc]
      have htl : tb.length ≤ 100000 := by rw [ht4]; unfold seg; rw [List.length_take, List.length_drop, ← Lib.size_eq]; omega
      have hBW : B ≤ W.heap.size := Nat.le_trans hB (Nat.le_of_lt hIW.lt)
      have hIW2 : IsB B b R tb W.drew := hIW.drew
      have hfin : ∀ W2, IsB B b R (tb ++ seg s (off + tp) (off + en)) W2 → Below B W.drew W2 → Lib.OthersKept 5 (some b) W.drew W2 → Mid s rb B b en off R (some t) w (W2.setCell ⟨b, 1036, none⟩ (.int .i64 0)) := by
        intro W2 h1 h2 h3
        refine ⟨upd R 1036 (.int .i64 0), tb ++ seg s (off + tp) (off + en), h1.set 1036 (by omega) (by rw [h36]; rfl) _, fun k hk1 => upd_ne _ _ _ _ hk1, ⟨0, upd_at _ _ _, Nat.le_refl _, by omega, ?_⟩, (hfW.trans ((Fr.refl B b rb W).drewN 1 |>.trans (Fr.of h2 h3))).set hB _ _, ?_⟩
        · rw [ht4, seg_append s t (off + tp) (off + en) ht3 (by omega)]; rfl
        · rw [Below.heap_setCell _ _ _ _ hne]
          obtain ⟨p, hp⟩ := HR.out
          rw [hp]
          exact h3 rb _ (hrW.trans hp) (fun e => hne (Option.some.inj e)) (fun c fz e => by simp at e)
      have HFIN := Lib.hid hfin; clear hfin
      have HSRC := Lib.hid hsrc; clear hsrc
      clear hsg ht4
      go_still_tail 15, (by kernel_rfl)
      change wpList _ _ _ _ _ W.drew
      go_wp2_with (go_at_call 97; refine (write_own B b R tb (seg s (off + tp) (off + en)) (1 + tp) (en - tp) _ _ hIW2 hBW hwn HSRC.out (by omega) htl).mono ?_)
      rintro e W2 ⟨rfl, h1, h2, h3⟩
      have c36' := at_cell h1 h36 (by omega)
      have f36' := h1.notFrozen 1036
      have H1 := Lib.hid h1; clear h1
      go_wp2_with fail
      go_meet
      exact HFIN.out W2 H1.out h2 h3
  case rest =>
    obtain ⟨R', tb', hI', hR', hT', hf', hr'⟩ := hcut
    clear c0 c26 c27 c28 c32 c36 hIW hfW hrW W h36 v36
    obtain ⟨p, hp⟩ := HR.out
    rw [hp] at hr'
    have hk := HK.out
    have e0 : R' 0 = _ := (hR' 0 (by omega)).trans hk.src
    have e26 : R' 1026 = _ := (hR' 1026 (by omega)).trans hk.cpos
    have e27 : R' 1027 = _ := (hR' 1027 (by omega)).trans hk.cen
    have e28 : R' 1028 = _ := (hR' 1028 (by omega)).trans hk.coff
    have ebuf : ∀ i, i < 1025 → ∃ x : UInt8, R' (1 + i) = some (.int .u8 x.toNat) := fun i hi => by obtain ⟨x, hx⟩ := hk.buf i hi; exact ⟨x, (hR' _ (by omega)).trans hx⟩
    clear hk
    have EB := Lib.hid ebuf; clear ebuf
    have HR' := Lib.hid hR'; clear hR'
    have HT' := Lib.hid hT'; clear hT'
    -- copy, of nothing
    have c26 := at_cell hI' e26 (by omega)
    have c27 := at_cell hI' e27 (by omega)
    go_wp2_with fail
    go_still_tail 16, (by kernel_rfl)
    change wpList _ _ _ _ _ wc.drew
    go_wp2_with fail
    obtain ⟨W1, hW1⟩ : ∃ W1, W1 = wc.drew := ⟨_, rfl⟩
    rw [← hW1]
    have hI1 : IsB B b R' tb' W1 := by rw [hW1]; exact hI'.drew
    have hf1 : Fr B b rb w W1 := by rw [hW1]; exact hf'.drewN 1
    have hr1 : W1.heap[rb]? = some (.cells #[.string s, .int .i64 (off + en : Nat), .int .i64 p] 154 (0, 0)) := by rw [hW1]; exact hr'
    clear hW1 hI' hf' hr' c26 c27 wc
    have c26 := at_cell hI1 e26 (by omega)
    have c28 := at_cell hI1 e28 (by omega)
    have f28 := hI1.notFrozen 1028
    have hwo : wrap64 ((off : Int) + en) = (off : Int) + en := by unfold wrap64; omega
    go_still_tail 11, (by kernel_rfl)
    change wpList _ _ _ _ _ W1.drew
    go_wp2_with fail
    obtain ⟨W2, hW2⟩ : ∃ W2, W2 = (W1.setCell ⟨b, 1028, none⟩ (.int .i64 ((off : Int) + en))).drew := ⟨_, rfl⟩
    rw [← hW2]
    have hI2 : IsB B b (upd R' 1028 (.int .i64 ((off : Int) + en))) tb' W2 := by rw [hW2]; exact (hI1.set 1028 (by omega) (by rw [e28]; rfl) _).drew
    have hf2 : Fr B b rb w W2 := by rw [hW2]; exact (hf1.set hB _ _).drewN 1
    have hr2 : W2.heap[rb]? = some (.cells #[.string s, .int .i64 (off + en : Nat), .int .i64 p] 154 (0, 0)) := by rw [hW2]; exact (Below.heap_setCell _ _ _ _ hne).trans hr1
    clear hW2 hI1 hf1 hr1 c26 c28 f28 W1
    have c0 := at_cell hI2 (k := 0) ((upd_ne _ _ _ _ (by omega)).trans e0) (by omega)
    have c26 := at_cell hI2 (k := 1026) ((upd_ne _ _ _ _ (by omega)).trans e26) (by omega)
    have c27 := at_cell hI2 (k := 1027) ((upd_ne _ _ _ _ (by omega)).trans e27) (by omega)
    have hw0 : wrap64 ((en : Int) - en) = 0 := by unfold wrap64; omega
    go_quiet (fail)
    obtain ⟨W3, hW3⟩ : ∃ W3, W3 = W2.drewN nq := ⟨_, rfl⟩
    rw [← hW3]
    have hI3 : IsB B b (upd R' 1028 (.int .i64 ((off : Int) + en))) tb' W3 := by rw [hW3]; exact hI2.drewN _
    have hf3 : Fr B b rb w W3 := by rw [hW3]; exact hf2.drewN _
    have hr3 : W3.heap[rb]? = some (.cells #[.string s, .int .i64 (off + en : Nat), .int .i64 p] 154 (0, 0)) := by rw [hW3]; exact hr2
    clear hW3 hI2 hf2 hr2 c26 c27 c0 nq W2
    have c0 := at_cell hI3 (k := 0) ((upd_ne _ _ _ _ (by omega)).trans e0) (by omega)
    have hsl1 : ∀ W, (Instr.sliceAt 88 (.pointer (some ⟨b, 1, none⟩)) (some (.int .i64 0)) (some (.int .i64 1024)) none).run Tryz.prog W = .ok (.slice (some ⟨b, 1, none⟩) 1024 1025) W := fun W => slice88 b 0 1024 (by omega) (by omega) (by omega) W
    go_upto_region 10 with fail
    go_cut [6, 7] (fun v6 v7 wx => ∃ n : Nat, v6 = .int .i64 n ∧ RedEnd s (off + en) n v7 wx ∧ Red s rb B b (off + en) n tb' (upd R' 1028 (.int .i64 ((off : Int) + en))) w wx)
    case first =>
      have hbs : ∀ i, i < 1025 → ((upd R' 1028 (.int .i64 ((off : Int) + en))) (1 + i)).isSome = true := fun i hi => by obtain ⟨x, hx⟩ := EB.out i hi; rw [upd_ne _ _ _ _ (by omega), hx]; rfl
      have hcon := read_step s rb B b (off + en) p tb' _ W3.drew hI3.drew hs hoff hbs hr3 hrb hne (HG.out.keep (hf3.1.trans (below_drewN (Below.refl B W3) 1)) hB9) hB9
      have HC := Lib.hid hcon; clear hcon
      have HF3 := Lib.hid hf3; clear hf3
      clear hbs hr3 hI3
      have hmr := fun W => meth_read (some ⟨rb, 0, none⟩) W
      go_region_with (first | (go_at_call 204; refine HC.out.mono ?_; rintro e wx ⟨n, v, rfl, h1, h2⟩; have H1 := Lib.hid h1; clear h1; have H2 := Lib.hid h2; clear h2))
      go_wp2_with fail
      go_meet
      obtain ⟨R3, k1, k2, k3, k4, k5⟩ := H2.out
      exact ⟨n, rfl, H1.out, R3, k1, k2, k3, (HF3.out.drewN 1).trans k4, k5⟩
    case rest =>
    clear c0 hsl1 hsl0 hsl hce hp hI3 hf3 hr3 W3 p
    obtain ⟨n, rfl, hend, R3, hI3, hin, hout, hf3, p3, hr3⟩ := hcut
    have he4 : ∀ ea, wc.cell? ⟨4, 0, none⟩ = some (.iface 215 (.pointer (some ea))) → w.cell? ⟨4, 0, none⟩ = some (.iface 215 (.pointer (some ea))) := fun ea h => (hf3.1.cell (p := ⟨4, 0, none⟩) (by simp; omega)).symm.trans h
    have HE4 := Lib.hid he4; clear he4
    have hn : n ≤ 1024 ∧ off + en + n ≤ s.size := by rcases hend with ⟨_, _, h1, h2, _⟩ | ⟨h1, h2, _⟩ <;> omega
    obtain ⟨hn, hqn⟩ := hn
    have hk := HK.out
    have hfl := filled hk HR'.out hin hout hn
    have hf36 := filled36 hout hn
    have x26 : R3 1026 = _ := (hout 1026 (by omega)).trans ((upd_ne _ _ _ _ (by omega)).trans e26)
    have x27 : R3 1027 = _ := (hout 1027 (by omega)).trans ((upd_ne _ _ _ _ (by omega)).trans e27)
    have x1n : (R3 (1 + n)).isSome = true := by
      obtain ⟨x, hx⟩ := EB.out n (by omega)
      rw [hout _ (by omega), upd_ne _ _ _ _ (by omega), hx]; rfl
    have hI4 : IsB B b (upd (upd R3 1026 (.int .i64 0)) 1027 (.int .i64 n)) tb' ((wc.setCell ⟨b, 1026, none⟩ (.int .i64 0)).setCell ⟨b, 1027, none⟩ (.int .i64 n)) :=
      IsB.set (IsB.set hI3 1026 (by omega) (by rw [x26]; rfl) _) 1027 (by omega) (by rw [upd_ne _ _ _ _ (by omega), x27]; rfl) _
    have hf4 : Fr B b rb w ((wc.setCell ⟨b, 1026, none⟩ (.int .i64 0)).setCell ⟨b, 1027, none⟩ (.int .i64 n)) := (hf3.set hB _ _).set hB _ _
    have hr4 : ((wc.setCell ⟨b, 1026, none⟩ (.int .i64 0)).setCell ⟨b, 1027, none⟩ (.int .i64 n)).heap[rb]? = some (.cells #[.string s, .int .i64 (off + en + n : Nat), .int .i64 p3] 154 (0, 0)) := by
      rw [Below.heap_setCell _ _ _ _ hne, Below.heap_setCell _ _ _ _ hne]; exact hr3
    have c26 := at_cell hI3 x26 (by omega)
    have c27 := at_cell hI3 x27 (by omega)
    have f26 := hI3.notFrozen 1026
    have f27 := hI3.notFrozen 1027
    have HIN := Lib.hid hin; clear hin
    have HOUT := Lib.hid hout; clear hout
    have HK2 := Lib.hid hfl; clear hfl
    have H36 := Lib.hid hf36; clear hf36
    have HI4 := Lib.hid hI4; clear hI4
    have HF4 := Lib.hid hf4; clear hf4
    have HR4 := Lib.hid hr4; clear hr4
    have HEND := Lib.hid hend; clear hend
    clear hk e0 e26 e27 e28 x26 x27
    go_upto_region 13 with fail
    obtain ⟨W4, hW4⟩ : ∃ W4, W4 = (wc.setCell ⟨b, 1026, none⟩ (.int .i64 0)).setCell ⟨b, 1027, none⟩ (.int .i64 n) := ⟨_, rfl⟩
    rw [← hW4]
    have hI4 := HI4.out
    have hf4 := HF4.out
    have hr4 := HR4.out
    rw [← hW4] at hI4 hf4 hr4
    clear hW4 HI4 HF4 HR4 c26 c27 f26 f27 hI3 hf3 hr3
    have c27 := at_cell hI4 (upd_at _ _ _) (by omega)
    have cN : ∃ v, W4.cell? ⟨b, 1 + n, none⟩ = some v := by
      obtain ⟨v, hv⟩ := Option.isSome_iff_exists.1 x1n
      exact ⟨v, at_cell hI4 (k := 1 + n) (by rw [upd_ne _ _ _ _ (by omega), upd_ne _ _ _ _ (by omega)]; exact hv) (by omega)⟩
    obtain ⟨vN, cN⟩ := cN
    have fN := hI4.notFrozen (1 + n)
    have hn5 : ((n : Int) < 1025) = True := eq_true (by omega)
    have hn6 : ((0 : Int) ≤ (n : Int)) = True := eq_true (by omega)
    go_still_tail 8, (by kernel_rfl)
    change wpList _ _ _ _ _ W4.drew
    go_upto_region 14 with fail
    obtain ⟨W5, hW5⟩ : ∃ W5, W5 = (W4.setCell ⟨b, 1 + n, none⟩ (.int .u8 128)).drew := ⟨_, rfl⟩
    rw [← hW5]
    have hI5 : IsB B b (upd (upd (upd R3 1026 (.int .i64 0)) 1027 (.int .i64 n)) (1 + n) (.int .u8 128)) tb' W5 := by
      rw [hW5]
      exact (IsB.set hI4 (1 + n) (by omega) (by rw [upd_ne _ _ _ _ (by omega), upd_ne _ _ _ _ (by omega)]; exact x1n) _).drew
    have hf5 : Fr B b rb w W5 := by rw [hW5]; exact (hf4.set hB _ _).drewN 1
    have hr5 : W5.heap[rb]? = some (.cells #[.string s, .int .i64 (off + en + n : Nat), .int .i64 p3] 154 (0, 0)) := by rw [hW5]; exact (Below.heap_setCell _ _ _ _ hne).trans hr4
    clear hW5 hI4 hf4 hr4 c27 cN fN x1n vN hn5 hn6 W4
    rcases HEND.out with ⟨hm, hn0, -, -, rfl⟩ | ⟨hm, rfl, ea, rfl, h4⟩
    · go_wp2_with fail
      refine HRN.out _ _ ?_
      clear HRN
      have hfl := HK2.out
      have c26 := at_cell hI5 hfl.c26 (by omega)
      have c27 := at_cell hI5 hfl.c27 (by omega)
      obtain ⟨hh0, hx0⟩ := hfl.own 0 hn0
      obtain ⟨x, hx⟩ : ∃ x : Int, x = s[off + en + 0].toNat := ⟨_, rfl⟩
      rw [← hx] at hx0
      have hx1 : 0 < x := by have := (HA.out _ hh0).1; omega
      have hx2 : x < 128 := by have := (HA.out _ hh0).2; omega
      have c1 := at_cell hI5 hx0 (by omega)
      have HX := Lib.hid hx; clear hx hx0 hfl
      go_upto_region 3 with fail
      go_cut [45] (fun v wx => v = .bool false ∧ ∃ d, wx = W5.drewN d)
      case first =>
        by_cases h4 : n < 4
        · have hq5 : ((n : Int) < 4) = True := eq_true (by omega)
          have hsl3 : ∀ W, (Instr.sliceAt 88 (.pointer (some ⟨b, 1, none⟩)) (some (.int .i64 0)) (some (.int .i64 n)) none).run Tryz.prog W = .ok (.slice (some ⟨b, 1, none⟩) n 1025) W := fun W => slice88 b 0 n (by omega) (by omega) (by omega) W
          have hU := (HG.out.keep hf5.1 hB9).first x.toNat (by omega)
          go_quiet (first | (refine (fullRune_plain b 1 n 1025 x _ ?_ (by omega) hx2 hn0 (by omega) (by omega) ?_).mono ?_; exact c1; exact hU; rintro e w' ⟨rfl, rfl⟩; exact ⟨rfl, _, rfl⟩))
          go_wp2_with fail
          go_meet
          exact ⟨rfl, nq, rfl⟩
        · have hq5 : ((n : Int) < 4) = False := eq_false (by omega)
          go_quiet (fail)
          go_wp2_with fail
          go_meet
          exact ⟨rfl, nq, rfl⟩
      case rest =>
        obtain ⟨rfl, d, rfl⟩ := hcut
        have hfl := HK2.out
        obtain ⟨R5, hR5⟩ : ∃ R5, R5 = (upd (upd (upd R3 1026 (.int .i64 0)) 1027 (.int .i64 n)) (1 + n) (.int .u8 128)) := ⟨_, rfl⟩
        have h36 := H36.out
        rw [← hR5] at hI5 hfl h36
        have hT5 : Tk s R5 tb' 0 (off + en) T := by
          have := HT'.out
          cases T with
          | none => exact h36.trans this
          | some t => obtain ⟨tp, k1, k2, k3, k4⟩ := this; exact ⟨tp, h36.trans k1, k2, k3, k4⟩
        obtain ⟨col, hcol⟩ := HK.out.ccol
        obtain ⟨line, hline⟩ := HK.out.cline
        obtain ⟨last, hlast⟩ := HK.out.clast
        have r30 : R5 1030 = _ := (hfl.rest 1030 (by omega) (by omega)).trans hcol
        have r29 : R5 1029 = _ := (hfl.rest 1029 (by omega) (by omega)).trans hline
        have r31 : R5 1031 = _ := (hfl.rest 1031 (by omega) (by omega)).trans hlast
        have r32 : R5 1032 = _ := (hfl.rest 1032 (by omega) (by omega)).trans HK.out.cla
        have c30 := at_cell hI5 r30 (by omega)
        have c29 := at_cell hI5 r29 (by omega)
        have c31 := at_cell hI5 r31 (by omega)
        have c32 := at_cell hI5 r32 (by omega)
        have f26 := hI5.notFrozen 1026
        have f29 := hI5.notFrozen 1029
        have f30 := hI5.notFrozen 1030
        have f31 := hI5.notFrozen 1031
        have f32 := hI5.notFrozen 1032
        have hwx : wrap32 x = x := by unfold wrap32; omega
        have HI5 := Lib.hid hI5; clear hI5
        have HF5 := Lib.hid hf5; clear hf5
        have HR5 := Lib.hid hr5; clear hr5
        have HFL := Lib.hid hfl; clear hfl
        have HT5 := Lib.hid hT5; clear hT5
        have G30 := Lib.hid r30; clear r30
        have G29 := Lib.hid r29; clear r29
        have G31 := Lib.hid r31; clear r31
        have G32 := Lib.hid r32; clear r32
        clear h36 hR5 hcol hline hlast
        go_wp2_with fail
        go_quiet (fail)
        clear hwx
        by_cases hnl : x = 10
        · subst hnl
          go_wp2_with fail
          go_light
          go_ret
          refine fin_more (R6 := upd (upd (upd (upd (upd (upd R5 1026 (.int .i64 1)) 1032 (.int .i64 1)) 1030 (.int .i64 (wrap64 (col + 1)))) 1029 (.int .i64 (wrap64 (line + 1)))) 1031 (.int .i64 (wrap64 (col + 1)))) 1030 (.int .i64 0)) HFL.out hs hn0 hn hqn HT5.out HF.out hrb hne ⟨hh0, HX.out⟩ ?_ ?_ ?_ ?_ ?_ ?_ ?_ ⟨p3, ?_⟩ ?_
          · refine IsB.set (IsB.set (IsB.set (IsB.set (IsB.set (IsB.set (HI5.out.drewN _) 1026 (by omega) ?_ _) 1032 (by omega) ?_ _) 1030 (by omega) ?_ _) 1029 (by omega) ?_ _) 1031 (by omega) ?_ _) 1030 (by omega) ?_ _ <;>
              simp [upd, HFL.out.c26, G29.out, G30.out, G31.out, G32.out]
          · intro k hk1; simp only [upd]; repeat rw [if_neg (by omega)]
          · simp [upd]
          · simp [upd]
          · simp [upd]
          · simp [upd]
          · simp [upd]
          · repeat rw [Below.heap_setCell _ _ _ _ hne]
            exact HR5.out
          · exact (((((((HF5.out.drewN _).set hB _ _).set hB _ _).set hB _ _).set hB _ _).set hB _ _).set hB _ _)
        · go_wp2_with fail
          go_light
          go_ret
          refine fin_more (R6 := upd (upd (upd R5 1026 (.int .i64 1)) 1032 (.int .i64 1)) 1030 (.int .i64 (wrap64 (col + 1)))) HFL.out hs hn0 hn hqn HT5.out HF.out hrb hne ⟨hh0, HX.out⟩ ?_ ?_ ?_ ?_ ?_ ?_ ?_ ⟨p3, ?_⟩ ?_
          · refine IsB.set (IsB.set (IsB.set (HI5.out.drewN _) 1026 (by omega) ?_ _) 1032 (by omega) ?_ _) 1030 (by omega) ?_ _ <;>
              simp [upd, HFL.out.c26, G29.out, G30.out, G31.out, G32.out]
          · intro k hk1; simp only [upd]; repeat rw [if_neg (by omega)]
          · simp [upd]
          · simp [upd, G29.out]
          · simp [upd]
          · simp [upd, G31.out]
          · simp [upd]
          · repeat rw [Below.heap_setCell _ _ _ _ hne]
            exact HR5.out
          · exact ((((HF5.out.drewN _).set hB _ _).set hB _ _).set hB _ _)
    · have c4 : W5.cell? ⟨4, 0, none⟩ = some (.iface 215 (.pointer (some ea))) := (hf5.1.cell (p := ⟨4, 0, none⟩) (by simp; omega)).trans (HE4.out ea h4)
      clear HRN
      have hfl := HK2.out
      have c27 := at_cell hI5 hfl.c27 (by omega)
      obtain ⟨R5, hR5⟩ : ∃ R5, R5 = (upd (upd (upd R3 1026 (.int .i64 0)) 1027 (.int .i64 (0 : Nat))) (1 + 0) (.int .u8 128)) := ⟨_, rfl⟩
      have h36 := H36.out
      rw [← hR5] at hI5 hfl h36
      have hT5 : Tk s R5 tb' 0 (off + en) T := by
        have := HT'.out
        cases T with
        | none => exact h36.trans this
        | some t => obtain ⟨tp, k1, k2, k3, k4⟩ := this; exact ⟨tp, h36.trans k1, k2, k3, k4⟩
      obtain ⟨col, hcol⟩ := HK.out.ccol
      obtain ⟨line, hline⟩ := HK.out.cline
      obtain ⟨last, hlast⟩ := HK.out.clast
      have r30 : R5 1030 = _ := (hfl.rest 1030 (by omega) (by omega)).trans hcol
      have r29 : R5 1029 = _ := (hfl.rest 1029 (by omega) (by omega)).trans hline
      have r31 : R5 1031 = _ := (hfl.rest 1031 (by omega) (by omega)).trans hlast
      have r32 : R5 1032 = _ := (hfl.rest 1032 (by omega) (by omega)).trans HK.out.cla
      have c30 := at_cell hI5 r30 (by omega)
      have c32 := at_cell hI5 r32 (by omega)
      have f30 := hI5.notFrozen 1030
      have f32 := hI5.notFrozen 1032
      have hnq := fun W => neq_same W ea
      have HI5 := Lib.hid hI5; clear hI5
      have HF5 := Lib.hid hf5; clear hf5
      have HR5 := Lib.hid hr5; clear hr5
      have HFL := Lib.hid hfl; clear hfl
      have HT5 := Lib.hid hT5; clear hT5
      have G30 := Lib.hid r30; clear r30
      have G29 := Lib.hid r29; clear r29
      have G31 := Lib.hid r31; clear r31
      have G32 := Lib.hid r32; clear r32
      clear h36 hR5 hcol hline hlast
      have HM := Lib.hid hm; clear hm
      by_cases hla : (0 : Int) < (la : Int)
      · have hla' : ((0 : Int) < (la : Int)) = True := eq_true hla
        go_wp2_with fail
        go_ret
        refine fin_end (R6 := upd (upd R5 1030 (.int .i64 (wrap64 (col + 1)))) 1032 (.int .i64 0)) HFL.out hs HM.out HT5.out HF.out hrb hne ?_ ?_ ?_ ?_ ?_ ?_ ?_ ⟨p3, ?_⟩ ?_
        · refine IsB.set (IsB.set HI5.out 1030 (by omega) ?_ _) 1032 (by omega) ?_ _ <;>
            simp [upd, G30.out, G32.out]
        · intro k hk1; simp only [upd]; repeat rw [if_neg (by omega)]
        · simp [upd, HFL.out.c26]
        · simp [upd, G29.out]
        · simp [upd]
        · simp [upd, G31.out]
        · simp [upd]
        · repeat rw [Below.heap_setCell _ _ _ _ hne]
          exact HR5.out
        · exact ((HF5.out.set hB _ _).set hB _ _)
      · have hla' : ((0 : Int) < (la : Int)) = False := eq_false hla
        go_wp2_with fail
        go_ret
        refine fin_end (R6 := upd R5 1032 (.int .i64 0)) HFL.out hs HM.out HT5.out HF.out hrb hne ?_ ?_ ?_ ?_ ?_ ?_ ?_ ⟨p3, ?_⟩ ?_
        · refine IsB.set HI5.out 1032 (by omega) ?_ _
          simp [G32.out]
        · intro k hk1; simp only [upd]; repeat rw [if_neg (by omega)]
        · simp [upd, HFL.out.c26]
        · simp [upd, G29.out]
        · simp [upd, G30.out]
        · simp [upd, G31.out]
        · simp [upd]
        · repeat rw [Below.heap_setCell _ _ _ _ hne]
          exact HR5.out
        · exact (HF5.out.set hB _ _)

theorem next_any (s : ByteArray) (rb B b : Nat) (F : Nat → Option Value) (q la : Nat) (T : Option Nat) (w : World)
    (h : St s rb B b F q la T w) (ha : Plain s) (hG : Gl w) (hB9 : 9 ≤ B) :
    Calls Tryz.prog 86 #[.pointer (some ⟨b, 0, none⟩)] w (NextPost s rb B b F q T w) := by
  obtain ⟨R, pos, en, off, tb, hI, hk, hT, rfl, hF, hrb, hne, hr⟩ := h
  replace hT := hT.mono (Nat.sub_le pos la)
  by_cases hp : pos < en
  · exact next_in s rb B b F R pos en off la tb T w hI hk hT hF hrb hne hr hp ha
  · obtain rfl : pos = en := by have := hk.hpos; omega
    exact next_edge s rb B b F R pos off la tb T w hI hk hT hF hrb hne hr ha hG hB9

end Go.Proofs.YtblpcpkkjbkakaaGreatDoor
