/- Lemmas towards the seat's laws: 4 texts joined. -/
import Derived.Test.YtblpcpkkjbkakaaGreatDoorY21
import Derived.Test.YtblpcpkkjbkakaaGreatDoorY16
import Derived.Test.YtblpcpkkjbkakaaGreatDoorY19
/- The parser at its making: ready at the text's beginning. -/
namespace Go.Proofs.YtblpcpkkjbkakaaGreatDoor
open Go Go.RowKit
set_option linter.unusedVariables false
set_option linter.unusedSimpArgs false

theorem zbuf : (Tryz.zeroCells99.toList.drop 1).take 1025 = List.replicate 1025 (.int .u8 0) := by kernel_rfl
theorem zbuf_at (i : Nat) (h : i < 1025) : Tryz.zeroCells99[1 + i]? = some (.int .u8 0) := by
  have h1 : ((Tryz.zeroCells99.toList.drop 1).take 1025)[i]? = some (.int .u8 0) := by rw [zbuf, List.getElem?_replicate, if_pos h]
  rw [List.getElem?_take, if_pos h, List.getElem?_drop] at h1
  simpa using h1
theorem ztail : (Tryz.zeroCells99.toList.drop 1033).take 3 = [.slice none 0 0, .int .i64 0, .int .i8 0] := by kernel_rfl
theorem z37 : Tryz.zeroCells99[1037]? = some (.int .i64 0) := by kernel_rfl
theorem z33 : Tryz.zeroCells99[1033]? = some (.slice none 0 0) := by kernel_rfl
theorem z34 : Tryz.zeroCells99[1034]? = some (.int .i64 0) := by kernel_rfl
theorem z35 : Tryz.zeroCells99[1035]? = some (.int .i8 0) := by kernel_rfl
theorem z43 : Tryz.zeroCells99[1043]? = some .nilFunc := by kernel_rfl
theorem z45 : Tryz.zeroCells99[1045]? = some (.int .i64 0) := by kernel_rfl
theorem z47 : Tryz.zeroCells99[1047]? = some (.int .i64 0) := by kernel_rfl
theorem z48 : Tryz.zeroCells101[1048]? = some (.string ⟨#[]⟩) := by kernel_rfl

theorem lexR_z (rb k : Nat) (h : k = 1033 ∨ k = 1034 ∨ k = 1035 ∨ k = 1037 ∨ k = 1043 ∨ k = 1045 ∨ k = 1047 ∨ (1 < k ∧ k < 1026)) : lexR rb k = Tryz.zeroCells99[k]? := by
  unfold lexR initR upd
  simp only [if_pos (show k < 1048 by omega)]
  repeat rw [if_neg (by omega)]

theorem lex_fok (rb : Nat) : FOk (lexR rb) where
  c37 := by rw [lexR_z rb _ (by omega), z37]; rfl
  c38 := by simp [lexR, initR, upd]
  c41 := by simp [lexR, initR, upd]
  c42 := by simp [lexR, initR, upd]
  c43 := by rw [lexR_z rb _ (by omega), z43]
  c45 := by rw [lexR_z rb _ (by omega), z45]; rfl
  c46 := by simp [lexR, initR, upd]
  c47 := by rw [lexR_z rb _ (by omega), z47]; rfl
theorem lex_ok (s : ByteArray) (rb : Nat) (hs : s.size ≤ 2000) : Ok s rb (lexR rb) 0 0 0 0 where
  src := by simp [lexR, initR, upd]
  buf := fun i hi => by
    by_cases h : i = 0
    · subst h; exact ⟨128, by simp [lexR, initR, upd]⟩
    · exact ⟨0, by rw [lexR_z rb _ (by omega), zbuf_at i hi]; rfl⟩
  own := fun j hj => absurd hj (by omega)
  guard := by simp [lexR, initR, upd]
  cpos := by simp [lexR, initR, upd]
  cen := by simp [lexR, initR, upd]
  coff := by simp [lexR, initR, upd]
  cline := by simp [lexR, initR, upd]
  ccol := by simp [lexR, initR, upd]
  clast := by simp [lexR, initR, upd]
  cla := by simp [lexR, initR, upd]
  hpos := by omega
  hen := by omega
  hoff := by omega
  hs := hs
  hla := by omega
  hla1 := by omega

def ParserPost (s : ByteArray) (w : World) (e : Ending) (w' : World) : Prop :=
  e = .returned (.pointer (some ⟨w.heap.size + 3, 0, none⟩)) ∧ Rdy s (w.heap.size + 2) w.heap.size (w.heap.size + 3) (lexR (w.heap.size + 2)) 0 w' ∧ Below w.heap.size w w'

set_option maxRecDepth 100000 in
set_option maxHeartbeats 4000000 in
theorem newParser_any (s : ByteArray) (w : World) (hs : s.size ≤ 2000) : Calls Tryz.prog 26 #[.string s] w (ParserPost s w) := by
  obtain ⟨n, hn⟩ : ∃ n, n = w.heap.size := ⟨_, rfl⟩
  have HN := Lib.hid hn; clear hn
  go_enter Tryz.func26, Tryz.ntmps26
  go_upto_region 1 with fail
  go_step
  go_step
  go_upto_region 77 with (go_at_call 41; refine (lexer_any s _).mono ?_)
  rintro e W1 ⟨r, rfl, hr1, hra, hri, hrr, hsz, hkk, hb⟩
  obtain ⟨q, q1, q2, q3⟩ := fill_one (fun i => #[(0, 1049)][i]?) Tryz.zeroCells104 r 1049 rfl hr1 (by rw [zsize104]; omega)
  have hq : ∀ i, q[i]? = lexR (w.heap.size + 2) i := fun i => by
    rw [q3 i]
    split
    · exact hri i
    · rename_i h
      rw [Array.getElem?_eq_none (by rw [zsize104]; omega), ← hri i, Array.getElem?_eq_none (by omega)]
  have hqa : q.all (·.oneCell') = true := by
    rw [Array.all_eq_true_iff_forall_mem]
    intro v hv
    obtain ⟨i, hi, rfl⟩ := Array.getElem_of_mem hv
    have h3 := q3 i
    rw [Array.getElem?_eq_getElem hi] at h3
    split at h3
    · exact all_one hra i _ h3.symm
    · exact all_one zall104 i _ h3.symm
  have hfin : ParserPost s w (.returned (.pointer (some ⟨W1.heap.size, 0, none⟩))) (W1.alloc (.cells q 104)) := by
    have hw2 : (W1.alloc (.cells q 104)).heap[w.heap.size + 3]? = some (.cells q 104) := by rw [← hsz]; exact Go.Proofs.YtblpcpkkjbkakaaGreatDoor.heap_alloc_new _ _
    have hkk2 : ∀ k, k < w.heap.size + 3 → (W1.alloc (.cells q 104)).heap[k]? = W1.heap[k]? := fun k hk => Below.heap_alloc _ _ _ (by omega)
    refine ⟨by rw [hsz], .inl ⟨rfl, by simp [lexR, initR, upd], none, lexR (w.heap.size + 2), 0, 0, 0, [], ?_, lex_ok s _ hs, by simp [Tk, lexR, initR, upd], rfl, fun _ _ => rfl, by omega, by omega, -1, ?_⟩, ?_⟩
    · refine ⟨by omega, .slice none 0 0, 0, ⟨q, hw2, ?_, ?_, ?_, fun i _ => hq i⟩, World.ownsRow_nil _ _ _ _, by simp [Value.ownBlock]⟩
      · rw [hq, lexR_z _ _ (by omega), z33]
      · rw [hq, lexR_z _ _ (by omega), z34]
      · rw [hq, lexR_z _ _ (by omega), z35]
    · rw [hkk2 _ (by omega), hrr]; rfl
    · exact ⟨hb.os, hb.tape, hb.output, by rw [size_alloc]; omega, fun k hk => by rw [hkk2 k (by omega)]; exact hkk k hk⟩
  have HF := Lib.hid hfin
  clear hfin hq hqa q3 q2 hri hrr hkk hb hra
  dsimp only
  go_step
  refine wpList_build_one rfl 104 (Operand.tmp 4) rfl (.agg r) rfl q ((built104 r).trans q1) ?_
  clear q1
  go_wp2_with fail
  go_ret
  have := HF.out
  rw [hsz] at this
  exact this

end Go.Proofs.YtblpcpkkjbkakaaGreatDoor
/- The scanner's numbers. -/
namespace Go.Proofs.YtblpcpkkjbkakaaGreatDoor
open Go Go.RowKit
set_option linter.unusedVariables false
set_option linter.unusedSimpArgs false

theorem low_nonlet {s : ByteArray} (ha : Plain s) (q : Nat) (h : ∀ c, s.data.toList[q]? = some c → isLet c = false) : (low (chr s q) == 101) = false ∧ (low (chr s q) == 112) = false := by
  by_cases hlt : q < s.size
  · have hn := h _ (get_at s q hlt)
    rw [chr_lt hlt]
    obtain ⟨-, l1, l2, -, -, -⟩ := low_tab s[q].toNat (ha _ hlt).2
    have hle : ¬ isLet s[q] = true := by rw [hn]; decide
    rw [isLet_iff] at hle
    refine ⟨beq_false_of_ne fun e => ?_, beq_false_of_ne fun e => ?_⟩
    · have := l1.1 e; omega
    · have := l2.1 e; omega
  · rw [chr_ge hlt, low_end]; decide
theorem low_e {s : ByteArray} (q : Nat) (h : s.data.toList[q]? = some 101 ∨ s.data.toList[q]? = some 69) : low (chr s q) = 101 ∧ q < s.size := by
  have hlt : q < s.size := by rcases h with h | h <;> (have := lt_of_get h; simpa using this)
  refine ⟨?_, hlt⟩
  rw [get_at s q hlt] at h
  rw [chr_lt hlt]
  rcases h with h | h <;> rw [Option.some.inj h] <;> decide +kernel

def NumPost (s : ByteArray) (rb B b : Nat) (F : Nat → Option Value) (E : Nat) (T : Option Nat) (w : World) (e : Ending) (w' : World) : Prop :=
  ∃ tok : Int, e = .returned (.tuple #[.int .i32 tok, .int .i32 (chr s E)]) ∧ tok < -1 ∧ Cur s rb B b F E T w' ∧ Fr B b rb w w'

/-- Between the number's parts: the place P, the number y in the block iv. -/
def NumAt (s : ByteArray) (rb B b iv : Nat) (F : Nat → Option Value) (P : Nat) (y : Int) (T : Option Nat) (w wx : World) : Prop :=
  Cur s rb B b F P T wx ∧ Fr B b rb w wx ∧ wx.heap[iv]? = some (.cells #[.int .i32 y] 21 (0, 0))

set_option maxRecDepth 100000 in
set_option maxHeartbeats 4000000 in
theorem scanNumber_any (s : ByteArray) (rb B b : Nat) (F : Nat → Option Value) (t p : Nat) (T : Option Nat) (w : World) (sd : Bool) (D : Nat) (dot : Bool) (m : Nat)
    (h : Cur s rb B b F p T w) (ha : Plain s) (hu : NoBar s) (hG : Gl w) (hB9 : 9 ≤ B) (hF : F 1041 = some (.int .u64 28)) (hP : Parts (s.data.toList.drop t) D dot m)
    (ht : t < s.size) (hE : t + decm (s.data.toList.drop t) ≤ s.size) (hsd : (sd = false ∧ p = t ∧ isDig s[t] = true) ∨ (sd = true ∧ p = t + 1 ∧ D = 0 ∧ dot = true)) :
    Calls Tryz.prog 91 #[.pointer (some ⟨b, 0, none⟩), .int .i32 (chr s p), .bool sd] w (NumPost s rb B b F (t + decm (s.data.toList.drop t)) T w) := by
  obtain ⟨E, hEq⟩ : ∃ E, t + decm (s.data.toList.drop t) = E := ⟨_, rfl⟩
  rw [hEq] at hE ⊢
  have hs := h.size
  obtain ⟨hBb, hbl, hrl, hBr, hne⟩ := h.lt
  have hib : w.heap.size ≠ b := by omega
  have hir : w.heap.size ≠ rb := by omega
  have hBi : B ≤ w.heap.size := by omega
  have hA0 : NumAt s rb B b w.heap.size F p 0 T w (w.alloc (Obj.cells #[Value.int IntKind.i32 0] 21)) := ⟨h.alloc _, (Fr.refl _ _ _ _).alloc hBi _, heap_alloc_new _ _⟩
  obtain ⟨iv, hiv⟩ : ∃ iv, iv = w.heap.size := ⟨_, rfl⟩
  have HA0 := Lib.hid hA0; clear hA0 h
  have HA := Lib.hid ha; clear ha
  have HU := Lib.hid hu; clear hu
  have HG := Lib.hid hG; clear hG
  have HP := Lib.hid hP; clear hP
  have HE := Lib.hid hEq; clear hEq
  have HS := Lib.hid hsd; clear hsd
  go_enter Tryz.func91, Tryz.ntmps91
  go_upto_if 17 with fail
  rw [← hiv] at HA0 hib hir hBi ⊢
  obtain ⟨w0, hw0⟩ : ∃ w0, w0 = w.alloc (Obj.cells #[Value.int IntKind.i32 0] 21) := ⟨_, rfl⟩
  rw [← hw0] at HA0 ⊢
  have HV := Lib.hid hiv; clear hiv hw0
  go_cut [1, 2, 8, 9, 10, 12] (fun c d ba pr dg tk wx => c = .int .i32 (chr s (if dot then t + D + 1 else t + D)) ∧ d = .bool dot ∧ (∃ x : Int, tk = .int .i32 x ∧ (dot = false → x = -3)) ∧ dg = .int .i64 (any1 D) ∧
    ((ba = .int .i64 8 ∧ pr = .int .i32 48) ∨ (ba = .int .i64 10 ∧ pr = .int .i32 0)) ∧ NumAt s rb B b iv F (if dot then t + D + 1 else t + D) 0 T w wx)
  case first =>
   as_aux_lemma =>
    have hP := HP.out
    have hS := HS.out
    clear HS
    rcases hS with ⟨rfl, rfl, hdig⟩ | ⟨rfl, rfl, rfl, rfl⟩
    · have h0 := HA0.out
      have hl0 : (s.data.toList.drop p)[0]? = some s[p] := by rw [get_drop, Nat.add_zero, get_at s p ht]
      have hd46 : (chr s (p + D) == 46) = dot := by
        have h1 := chr_beq s (p + D) 46 (by omega)
        have h2 := hP.hdot
        rw [get_drop] at h2
        rw [Bool.eq_iff_iff, show (chr s (p + D) == 46) = _ from h1, beq_iff_eq]
        exact h2
      have hlt46 : dot = true → p + D < s.size := fun hd => by
        have := hP.hdot.2 hd
        rw [get_drop] at this
        have := lt_of_get this; simpa using this
      by_cases hz : s[p] = 48
      · have hD1 : D = 1 := hP.hzero (by rw [hl0, hz])
        have hz0 : digs (s.data.toList.drop (p + 1)) = 0 := by
          have h1 := hP.hD
          rw [drop_at s p ht] at h1
          simp only [digs, hdig, if_true] at h1
          omega
        have c48 : (chr s p == 48) = true := by rw [chr_lt ht, hz]; rfl
        have hpl := chr_bound HA.out (p + 1)
        have hlow : (low (chr s (p + 1)) == 120) = false ∧ (low (chr s (p + 1)) == 111) = false ∧ (low (chr s (p + 1)) == 98) = false := by
          by_cases hlt : p + 1 < s.size
          · rw [chr_lt hlt]
            obtain ⟨-, -, -, l1, l2, l3⟩ := low_tab s[p + 1].toNat (HA.out _ hlt).2
            have hnl : s[p + 1].toNat ≠ 120 ∧ s[p + 1].toNat ≠ 88 ∧ s[p + 1].toNat ≠ 111 ∧ s[p + 1].toNat ≠ 79 ∧ s[p + 1].toNat ≠ 98 ∧ s[p + 1].toNat ≠ 66 := by
              have hg : (s.data.toList.drop p)[D]? = some s[p + 1] := by rw [get_drop, hD1, get_at s (p + 1) hlt]
              by_cases hle : isLet s[p + 1] = true
              · have hdf : dot = false := by
                  cases hdd : dot with
                  | false => rfl
                  | true =>
                    have := hP.hdot.2 hdd
                    rw [hg] at this
                    rw [Option.some.inj this] at hle
                    simp [isLet] at hle
                rcases hP.hnx _ hdf hg hle with h | h <;> rw [h] <;> decide
              · rw [isLet_iff] at hle
                omega
            refine ⟨beq_false_of_ne fun e => ?_, beq_false_of_ne fun e => ?_, beq_false_of_ne fun e => ?_⟩
            · have := l1.1 e; omega
            · have := l2.1 e; omega
            · have := l3.1 e; omega
          · rw [chr_ge hlt, low_end]; decide
        obtain ⟨e1, e2, e3⟩ := hlow
        have HH := Lib.hid hd46; clear hd46
        have HL := Lib.hid hlt46; clear hlt46
        have HZ := Lib.hid hz; clear hz
        have HZ0 := Lib.hid hz0; clear hz0
        have HD1 := Lib.hid hD1; clear hD1
        clear hP hdig hl0 hpl
        have ho : bits BinOp.or IntKind.i64 1 0 = 1 := by decide +kernel
        have ha0 : any1 0 = 0 := rfl
        go_upto_region 11 with (go_at_call 86; refine (next_cur s rb B b F p T _ h0.1 HA.out (HG.out.keep h0.2.1.1 hB9) hB9).mono ?_; rintro e w2 ⟨rfl, h2, f2⟩; rw [nx_lt ht] at h2 ⊢; have hv2 := f2.2 iv _ h0.2.2 hib hir (fun c fz e => by simp at e); have H2 := Lib.hid h2; clear h2; have F2 := Lib.hid f2; clear f2; have V2 := Lib.hid hv2; clear hv2)
        go_wp2_with (go_at_call 116; refine (lower_c _ _).mono ?_; rintro e w' ⟨rfl, rfl⟩)
        refine (digits8 s rb B b iv 0 F (p + 1) T w2 H2.out (by omega) HA.out HU.out (HG.out.keep (h0.2.1.trans F2.out).1 hB9) hB9 V2.out hBi hib hir).mono ?_
        rw [HZ0.out]
        rintro e w3 ⟨rfl, h3, f3, y, hy, hy0⟩
        obtain rfl := hy0 rfl
        rw [show p + 1 + 0 = p + D by have := HD1.out; omega] at h3 ⊢
        have c41 := h3.cell (by omega) hF
        have hp1 : any1 D = 1 := by rw [HD1.out]; rfl
        have H3 := Lib.hid h3; clear h3
        have F3 := Lib.hid (FrI.toFr (h0.2.1.trans F2.out) f3 (by have := HV.out; omega)); clear f3
        have V3 := Lib.hid hy; clear hy hy0
        cases dot with
        | false =>
          have hh := HH.out
          go_wp2_with fail
          go_meet
          case rel => exact ⟨rfl, rfl, ⟨_, rfl, fun _ => rfl⟩, by rw [hp1], .inl ⟨rfl, rfl⟩, H3.out, F3.out, V3.out⟩
        | true =>
          have hh := HH.out
          have hlt := HL.out rfl
          go_wp2_with fail
          refine (next_cur s rb B b F (p + D) T _ H3.out HA.out (HG.out.keep F3.out.1 hB9) hB9).mono ?_
          rintro e w4 ⟨rfl, h4, f4⟩
          rw [nx_lt hlt] at h4 ⊢
          have v4 := f4.2 iv _ V3.out hib hir (fun c fz e => by simp at e)
          have H4 := Lib.hid h4; clear h4
          have F4 := Lib.hid f4; clear f4
          have V4 := Lib.hid v4; clear v4
          go_wp2_with fail
          go_meet
          case rel => exact ⟨rfl, rfl, ⟨_, rfl, fun h => by cases h⟩, by rw [hp1], .inl ⟨rfl, rfl⟩, H4.out, F3.out.trans F4.out, V4.out⟩
      · have hDp : 0 < D := by
          have h1 := hP.hD
          rw [drop_at s p ht] at h1
          simp only [digs, hdig, if_true] at h1
          omega
        have c48 : (chr s p == 48) = false := by
          rw [chr_lt ht]
          exact beq_false_of_ne fun e => hz ((byte_eq _ _).2 e)
        have HH := Lib.hid hd46; clear hd46
        have HL := Lib.hid hlt46; clear hlt46
        have HD := Lib.hid hP.hD
        have hp1 : any1 D = 1 := by unfold any1; rw [if_neg (by omega)]
        have ho : bits BinOp.or IntKind.i64 0 1 = 1 := or0
        clear hP hdig hl0 hz
        go_wp2_with fail
        refine (digits10 s rb B b F p T _ _ h0.1 (by omega) HA.out HU.out (HG.out.keep h0.2.1.1 hB9) hB9).mono ?_
        rw [HD.out]
        rintro e w3 ⟨rfl, h3, f3⟩
        have v3 := f3.2 iv _ h0.2.2 hib hir (fun c fz e => by simp at e)
        have c41 := h3.cell (by omega) hF
        have H3 := Lib.hid h3; clear h3
        have F3 := Lib.hid (h0.2.1.trans f3); clear f3
        have V3 := Lib.hid v3; clear v3
        cases dot with
        | false =>
          have hh := HH.out
          go_wp2_with fail
          go_meet
          case rel => exact ⟨rfl, rfl, ⟨_, rfl, fun _ => rfl⟩, by rw [hp1], .inr ⟨rfl, rfl⟩, H3.out, F3.out, V3.out⟩
        | true =>
          have hh := HH.out
          have hlt := HL.out rfl
          go_wp2_with fail
          refine (next_cur s rb B b F (p + D) T _ H3.out HA.out (HG.out.keep F3.out.1 hB9) hB9).mono ?_
          rintro e w4 ⟨rfl, h4, f4⟩
          rw [nx_lt hlt] at h4 ⊢
          have v4 := f4.2 iv _ V3.out hib hir (fun c fz e => by simp at e)
          have H4 := Lib.hid h4; clear h4
          have F4 := Lib.hid f4; clear f4
          have V4 := Lib.hid v4; clear v4
          go_wp2_with fail
          go_meet
          case rel => exact ⟨rfl, rfl, ⟨_, rfl, fun h => by cases h⟩, by rw [hp1], .inr ⟨rfl, rfl⟩, H4.out, F3.out.trans F4.out, V4.out⟩
    · have h0 := HA0.out
      clear hP
      go_wp2_with fail
      go_meet
      case rel => exact ⟨rfl, rfl, ⟨_, rfl, fun h => by cases h⟩, rfl, .inr ⟨rfl, rfl⟩, h0⟩
  case rest =>
    obtain ⟨rfl, rfl, ⟨x, rfl, hx⟩, rfl, hb, hN⟩ := hcut
    have HX := Lib.hid hx; clear hx
    have HN := Lib.hid hN; clear hN
    have HB := Lib.hid hb; clear hb
    clear HA0 HS w0
    go_upto_if 58 with fail
    go_cut [1, 10, 12] (fun c dg tk wx => c = .int .i32 (chr s (t + m)) ∧ dg = .int .i64 1 ∧ ∃ y x : Int, tk = .int .i32 x ∧ ((x = -3 ∧ y = 0) ∨ x = -4) ∧ NumAt s rb B b iv F (t + m) y T w wx)
    case first =>
     as_aux_lemma =>
      have hP := HP.out
      have hm := hP.hm
      have hpos := hP.hpos
      cases dot with
      | false =>
        simp only [Bool.false_eq_true, if_false] at hm hpos HN ⊢
        obtain rfl : m = D := hm
        have ha1 : any1 m = 1 := by unfold any1; rw [if_neg (by omega)]
        have hx := HX.out rfl
        clear hP
        go_wp2_with fail
        go_meet
        case rel => exact ⟨rfl, rfl, 0, -3, rfl, .inl ⟨rfl, rfl⟩, HN.out⟩
      | true =>
        simp only [if_true] at hm hpos HN ⊢
        rw [digs_dd] at hm hpos
        obtain ⟨D2, hD2⟩ : ∃ D2, digs (s.data.toList.drop (t + (D + 1))) = D2 := ⟨_, rfl⟩
        rw [hD2] at hm hpos
        have ho : bits BinOp.or IntKind.i64 (any1 D) (any1 D2) = 1 := by
          unfold any1
          by_cases h1 : D = 0
          · rw [if_pos h1, if_neg (by omega)]; decide +kernel
          · rw [if_neg h1]; split <;> decide +kernel
        have hN := HN.out
        have hmt : t + m = t + D + 1 + D2 := by omega
        have HD2 := Lib.hid hD2; clear hD2
        have HM := Lib.hid hmt; clear hmt hm
        have hple : t + D + 1 ≤ s.size := by
          have := hP.hdot.2 rfl
          rw [get_drop] at this
          have := lt_of_get this; simp at this; omega
        clear hP
        rcases HB.out with ⟨rfl, rfl⟩ | ⟨rfl, rfl⟩
        · go_wp2_with fail
          refine (digits8 s rb B b iv 0 F (t + D + 1) T wc hN.1 hple HA.out HU.out (HG.out.keep hN.2.1.1 hB9) hB9 hN.2.2 hBi hib hir).mono ?_
          rw [show t + D + 1 = t + (D + 1) from rfl, HD2.out]
          rintro e w3 ⟨rfl, h3, f3, y, hy, hy0⟩
          have hv := HV.out
          have F3 := Lib.hid (FrI.toFr hN.2.1 f3 (by omega)); clear f3
          have H3 := Lib.hid h3; clear h3
          have V3 := Lib.hid hy; clear hy hy0 hv
          go_wp2_with fail
          go_meet
          case rel =>
            rw [HM.out]
            exact ⟨rfl, rfl, y, -4, rfl, .inr rfl, H3.out, F3.out, V3.out⟩
        · go_wp2_with fail
          refine (digits10 s rb B b F (t + D + 1) T _ wc hN.1 hple HA.out HU.out (HG.out.keep hN.2.1.1 hB9) hB9).mono ?_
          rw [show t + D + 1 = t + (D + 1) from rfl, HD2.out]
          rintro e w3 ⟨rfl, h3, f3⟩
          have v3 := f3.2 iv _ hN.2.2 hib hir (fun c fz e => by simp at e)
          have F3 := Lib.hid (hN.2.1.trans f3); clear f3
          have H3 := Lib.hid h3; clear h3
          have V3 := Lib.hid v3; clear v3
          go_wp2_with fail
          go_meet
          case rel =>
            rw [HM.out]
            exact ⟨rfl, rfl, 0, -4, rfl, .inr rfl, H3.out, F3.out, V3.out⟩
    case rest =>
     as_aux_lemma =>
      clear HN HX x
      obtain ⟨rfl, rfl, y, x, rfl, hx, hN⟩ := hcut
      have HX := Lib.hid hx; clear hx
      have hNc := hN.1.cell (by omega) hF
      have HN := Lib.hid hN; clear hN
      have hb := HB.out
      have hP := HP.out
      by_cases hexp : ((s.data.toList.drop t)[m]? = some 101 ∨ (s.data.toList.drop t)[m]? = some 69)
      · obtain ⟨he, a, hae, hk, hde⟩ : ((s.data.toList.drop t)[m]? = some 101 ∨ (s.data.toList.drop t)[m]? = some 69) ∧ ∃ a, (a = if (s.data.toList.drop t)[m + 1]? = some 43 ∨ (s.data.toList.drop t)[m + 1]? = some 45 then m + 2 else m + 1) ∧ 0 < digs ((s.data.toList.drop t).drop a) ∧ decm (s.data.toList.drop t) = a + digs ((s.data.toList.drop t).drop a) := by
          rcases hP.hexp with h | ⟨_, h⟩
          · exact h
          · exfalso
            rcases hexp with he | he
            · have := h _ he; simp [isLet] at this
            · have := h _ he; simp [isLet] at this
        simp only [get_drop] at he hae
        rw [digs_dd] at hk hde
        obtain ⟨hl, hmlt⟩ := low_e _ he
        obtain ⟨n, hn⟩ : ∃ n, digs (s.data.toList.drop (t + a)) = n := ⟨_, rfl⟩
        rw [hn] at hk hde
        have hEE : E = t + a + n := by rw [← HE.out, hde]; omega
        have h1n : any1 n = 1 := by unfold any1; rw [if_neg (by omega)]
        have HNN := Lib.hid hn; clear hn
        have c43 := chr_beq s (t + m + 1) 43 (by omega)
        have c45 := chr_beq s (t + m + 1) 45 (by omega)
        have ho : bits BinOp.or IntKind.i64 1 1 = 1 := or1
        have hNN := HN.out
        have hand : bits BinOp.and IntKind.i64 1 1 = 1 := by decide +kernel
        have hand2 : bits BinOp.and IntKind.u64 28 16 = 16 := by decide +kernel
        have hsz : t + a ≤ s.size := by omega
        have HC43 := Lib.hid c43; clear c43
        have HC45 := Lib.hid c45; clear c45
        have HAE := Lib.hid hae; clear hae
        have HEE := Lib.hid hEE; clear hEE
        clear hexp he hP hde
        go_upto_if 103 with (go_at_call 116; refine (lower_c _ _).mono ?_; rintro e w' ⟨rfl, rfl⟩)
        go_cut [1, 10, 12, 13] (fun c dg tk ds wx => c = .int .i32 (chr s E) ∧ dg = .int .i64 1 ∧ ∃ y x : Int, tk = .int .i32 x ∧ ((x = -3 ∧ y = 0) ∨ x = -4) ∧ NumAt s rb B b iv F E y T w wx)
        case first =>
         as_aux_lemma =>
          have hsign : (s.data.toList[t + m + 1]? = some 43 ∨ s.data.toList[t + m + 1]? = some 45 → a = m + 2 ∧ t + m + 1 < s.size) ∧ (¬ (s.data.toList[t + m + 1]? = some 43 ∨ s.data.toList[t + m + 1]? = some 45) → a = m + 1) := by
            have h : a = if s.data.toList[t + m + 1]? = some 43 ∨ s.data.toList[t + m + 1]? = some 45 then m + 2 else m + 1 := HAE.out
            refine ⟨fun h1 => ⟨by rw [h, if_pos h1], by rcases h1 with h1 | h1 <;> (have := lt_of_get h1; simpa using this)⟩, fun h1 => by rw [h, if_neg h1]⟩
          have HSG := Lib.hid hsign; clear hsign
          have HNP := Lib.hid (And.intro hbl hrl); clear hbl hrl hs hBb
          clear HAE hE ht
          by_cases h43 : s.data.toList[t + m + 1]? = some 43
          · obtain ⟨ha2, hlt2⟩ := HSG.out.1 (.inl h43)
            have d43 : (chr s (t + m + 1) == 43) = true := by rw [show (chr s (t + m + 1) == 43) = _ from HC43.out, h43]; rfl
            clear h43
            have HA2 := Lib.hid ha2; clear ha2
            rcases hb with ⟨rfl, rfl⟩ | ⟨rfl, rfl⟩
            all_goals
              go_upto_region 44 with (go_at_call 86; refine (next_cur s rb B b F (t + m) T _ hNN.1 HA.out (HG.out.keep hNN.2.1.1 hB9) hB9).mono ?_; rintro e w2 ⟨rfl, h2, f2⟩; rw [nx_lt hmlt] at h2 ⊢; have v2 := f2.2 iv _ hNN.2.2 hib hir (fun c fz e => by simp at e); have H2 := Lib.hid h2; clear h2; have F2 := Lib.hid (hNN.2.1.trans f2); clear f2; have V2 := Lib.hid v2; clear v2)
              go_wp2_with fail
              refine (next_cur s rb B b F (t + m + 1) T _ H2.out HA.out (HG.out.keep F2.out.1 hB9) hB9).mono ?_
              rintro e w3 ⟨rfl, h3, f3⟩
              rw [nx_lt hlt2, show t + m + 1 + 1 = t + a by have := HA2.out; omega] at h3 ⊢
              have v3 := f3.2 iv _ V2.out hib hir (fun c fz e => by simp at e)
              have H3 := Lib.hid h3; clear h3
              have F3 := Lib.hid (F2.out.trans f3); clear f3
              have V3 := Lib.hid v3; clear v3
              go_wp2_with fail
              refine (digits10 s rb B b F (t + a) T _ _ H3.out hsz HA.out HU.out (HG.out.keep F3.out.1 hB9) hB9).mono ?_
              rw [HNN.out]
              rintro e w4 ⟨rfl, h4, f4⟩
              rw [h1n, ← HEE.out]
              rw [← HEE.out] at h4
              have v4 := f4.2 iv _ V3.out hib hir (fun c fz e => by simp at e)
              have H4 := Lib.hid h4; clear h4
              have F4 := Lib.hid (F3.out.trans f4); clear f4
              have V4 := Lib.hid v4; clear v4
              go_wp2_with fail
              go_meet
              case rel => exact ⟨rfl, rfl, y, -4, rfl, .inr rfl, H4.out, F4.out, V4.out⟩
          · have d43 : (chr s (t + m + 1) == 43) = false := by rw [show (chr s (t + m + 1) == 43) = _ from HC43.out]; simpa using h43
            by_cases h45 : s.data.toList[t + m + 1]? = some 45
            · obtain ⟨ha2, hlt2⟩ := HSG.out.1 (.inr h45)
              have d45 : (chr s (t + m + 1) == 45) = true := by rw [show (chr s (t + m + 1) == 45) = _ from HC45.out, h45]; rfl
              clear h43 h45
              have HA2 := Lib.hid ha2; clear ha2
              rcases hb with ⟨rfl, rfl⟩ | ⟨rfl, rfl⟩
              all_goals
                go_upto_region 44 with (go_at_call 86; refine (next_cur s rb B b F (t + m) T _ hNN.1 HA.out (HG.out.keep hNN.2.1.1 hB9) hB9).mono ?_; rintro e w2 ⟨rfl, h2, f2⟩; rw [nx_lt hmlt] at h2 ⊢; have v2 := f2.2 iv _ hNN.2.2 hib hir (fun c fz e => by simp at e); have H2 := Lib.hid h2; clear h2; have F2 := Lib.hid (hNN.2.1.trans f2); clear f2; have V2 := Lib.hid v2; clear v2)
                go_wp2_with fail
                refine (next_cur s rb B b F (t + m + 1) T _ H2.out HA.out (HG.out.keep F2.out.1 hB9) hB9).mono ?_
                rintro e w3 ⟨rfl, h3, f3⟩
                rw [nx_lt hlt2, show t + m + 1 + 1 = t + a by have := HA2.out; omega] at h3 ⊢
                have v3 := f3.2 iv _ V2.out hib hir (fun c fz e => by simp at e)
                have H3 := Lib.hid h3; clear h3
                have F3 := Lib.hid (F2.out.trans f3); clear f3
                have V3 := Lib.hid v3; clear v3
                go_wp2_with fail
                refine (digits10 s rb B b F (t + a) T _ _ H3.out hsz HA.out HU.out (HG.out.keep F3.out.1 hB9) hB9).mono ?_
                rw [HNN.out]
                rintro e w4 ⟨rfl, h4, f4⟩
                rw [h1n, ← HEE.out]
                rw [← HEE.out] at h4
                have v4 := f4.2 iv _ V3.out hib hir (fun c fz e => by simp at e)
                have H4 := Lib.hid h4; clear h4
                have F4 := Lib.hid (F3.out.trans f4); clear f4
                have V4 := Lib.hid v4; clear v4
                go_wp2_with fail
                go_meet
                case rel => exact ⟨rfl, rfl, y, -4, rfl, .inr rfl, H4.out, F4.out, V4.out⟩
            · have ha2 := HSG.out.2 (by rintro (h | h); exact h43 h; exact h45 h)
              have d45 : (chr s (t + m + 1) == 45) = false := by rw [show (chr s (t + m + 1) == 45) = _ from HC45.out]; simpa using h45
              clear h43 h45
              have HA2 := Lib.hid ha2; clear ha2
              rcases hb with ⟨rfl, rfl⟩ | ⟨rfl, rfl⟩
              all_goals
                go_upto_region 44 with (go_at_call 86; refine (next_cur s rb B b F (t + m) T _ hNN.1 HA.out (HG.out.keep hNN.2.1.1 hB9) hB9).mono ?_; rintro e w2 ⟨rfl, h2, f2⟩; rw [nx_lt hmlt] at h2 ⊢; have v2 := f2.2 iv _ hNN.2.2 hib hir (fun c fz e => by simp at e); have H2 := Lib.hid h2; clear h2; have F2 := Lib.hid (hNN.2.1.trans f2); clear f2; have V2 := Lib.hid v2; clear v2)
                rw [show t + m + 1 = t + a by have := HA2.out; omega] at H2 d43 d45 ⊢
                have H3 := H2; clear H2
                have F3 := F2; clear F2
                have V3 := V2; clear V2
                go_wp2_with fail
                refine (digits10 s rb B b F (t + a) T _ _ H3.out hsz HA.out HU.out (HG.out.keep F3.out.1 hB9) hB9).mono ?_
                rw [HNN.out]
                rintro e w4 ⟨rfl, h4, f4⟩
                rw [h1n, ← HEE.out]
                rw [← HEE.out] at h4
                have v4 := f4.2 iv _ V3.out hib hir (fun c fz e => by simp at e)
                have H4 := Lib.hid h4; clear h4
                have F4 := Lib.hid (F3.out.trans f4); clear f4
                have V4 := Lib.hid v4; clear v4
                go_wp2_with fail
                go_meet
                case rel => exact ⟨rfl, rfl, y, -4, rfl, .inr rfl, H4.out, F4.out, V4.out⟩
        case rest =>
          obtain ⟨rfl, rfl, y2, x2, rfl, hx2, hN2⟩ := hcut
          have c11 : wc.cell? ⟨iv, 0, none⟩ = some (.int .i32 y2) := by rw [Lib.cell_of_heap hN2.2.2]; rfl
          have hand12 : bits BinOp.and IntKind.i64 1 2 = 0 := by decide +kernel
          have HN2 := Lib.hid hN2; clear hN2 hNc
          have HNP := Lib.hid (And.intro hbl hrl); clear hbl hrl hs hBb
          clear hb hand hand2 h1n hsz hl hNN
          rcases hx2 with ⟨rfl, rfl⟩ | rfl
          · go_wp2_with fail
            go_ret2
            exact ⟨-3, rfl, by omega, HN2.out.1, HN2.out.2.1⟩
          · go_wp2_with fail
            go_ret2
            exact ⟨-4, rfl, by omega, HN2.out.1, HN2.out.2.1⟩
      · obtain ⟨hdm, hnl⟩ : decm (s.data.toList.drop t) = m ∧ ∀ c, (s.data.toList.drop t)[m]? = some c → isLet c = false := by
          rcases hP.hexp with ⟨h, _⟩ | h
          · exact absurd h hexp
          · exact h
        simp only [get_drop] at hnl
        obtain ⟨e1, e2⟩ := low_nonlet HA.out _ hnl
        have hEE : t + m = E := by rw [← HE.out, hdm]
        rw [hEE] at e1 e2 HN ⊢
        have hNN := HN.out
        have c11 : wc.cell? ⟨iv, 0, none⟩ = some (.int .i32 y) := by rw [Lib.cell_of_heap hNN.2.2]; rfl
        have hand : bits BinOp.and IntKind.i64 1 1 = 1 := by decide +kernel
        have hand2 : bits BinOp.and IntKind.u64 28 16 = 16 := by decide +kernel
        have hand12 : bits BinOp.and IntKind.i64 1 2 = 0 := by decide +kernel
        have HNP := Lib.hid (And.intro hbl hrl); clear hbl hrl hs hBb
        clear hexp hP hdm hnl hEE hNN
        have hx := HX.out
        rcases hx with ⟨rfl, rfl⟩ | rfl
        all_goals
          rcases hb with ⟨rfl, rfl⟩ | ⟨rfl, rfl⟩
          all_goals
            go_wp2_with (go_at_call 116; refine (lower_c _ _).mono ?_; rintro e w' ⟨rfl, rfl⟩)
            go_ret2
            exact ⟨_, rfl, by omega, HN.out.1, HN.out.2.1⟩

end Go.Proofs.YtblpcpkkjbkakaaGreatDoor
/- Scan: the walk up to the token's beginning. -/
namespace Go.Proofs.YtblpcpkkjbkakaaGreatDoor
open Go Go.RowKit
set_option linter.unusedVariables false
set_option linter.unusedSimpArgs false


set_option maxRecDepth 100000 in
set_option maxHeartbeats 4000000 in
theorem scan_any (s : ByteArray) (rb B b : Nat) (F : Nat → Option Value) (p t E : Nat) (eof : Bool) (w : World)
    (h : Rdy s rb B b F p w) (hps : p ≤ s.size) (ha : Plain s) (hu : NoBar s) (hG : Gl w) (hB9 : 9 ≤ B) (hF : FOk F) (ht : p + blks (s.data.toList.drop p) = t) (hK : TokAt s t E eof) :
    Calls Tryz.prog 67 #[.pointer (some ⟨b, 0, none⟩)] w (ScanPost s rb B b F t E eof w) := by
  have H := Lib.hid h; clear h
  have HA := Lib.hid ha; clear ha
  have HU := Lib.hid hu; clear hu
  have HG := Lib.hid hG; clear hG
  have HT := Lib.hid ht; clear ht
  have HK := Lib.hid hK; clear hK
  have HF := Lib.hid hF; clear hF
  go_enter Tryz.func67, Tryz.ntmps67
  go_wp2_with fail
  go_step3
  go_wp2_with fail
  refine (peek_any s rb B b F p _ H.out HA.out HG.out hB9).mono ?_
  rintro e w1 ⟨rfl, ⟨F1, hF1, h38, T, h1⟩, f1⟩
  obtain ⟨x36, c36⟩ := h1.c1036
  have f36 := h1.frozen 1036
  have f46 := h1.frozen 1046
  have hB := h1.lt.1
  obtain ⟨v46, e46⟩ := Option.isSome_iff_exists.1 HF.out.c46
  have h46' : F1 1046 = some v46 := (hF1 _ (by omega)).trans e46
  have c46 := h1.cell (by omega) h46'
  have HFO : RowKit.Hid (AgF F (upd F1 1046 (.int .i64 0)) ∧ FOk (upd F1 1046 (.int .i64 0))) := by
    refine Lib.hid ⟨fun k k1 k2 k3 k4 k5 => by rw [upd_ne _ _ _ _ k4]; exact hF1 k k2, ?_⟩
    have hf := HF.out
    constructor
    · rw [upd_ne _ _ _ _ (by omega), hF1 _ (by omega)]; exact hf.c37
    · rw [upd_ne _ _ _ _ (by omega)]; exact h38
    · rw [upd_ne _ _ _ _ (by omega), hF1 _ (by omega)]; exact hf.c41
    · rw [upd_ne _ _ _ _ (by omega), hF1 _ (by omega)]; exact hf.c42
    · rw [upd_ne _ _ _ _ (by omega), hF1 _ (by omega)]; exact hf.c43
    · rw [upd_ne _ _ _ _ (by omega), hF1 _ (by omega)]; exact hf.c45
    · rw [upd_at]; rfl
    · rw [upd_ne _ _ _ _ (by omega), hF1 _ (by omega)]; exact hf.c47
  have H2 := Lib.hid (h1.noTok.set 1046 (by omega) (by rw [h46']; rfl) (.int .i64 0)); clear h1
  have FR2 := Lib.hid ((f1.set hB 1036 (.int .i64 (-1))).set hB 1046 (.int .i64 0)); clear f1
  go_wp2_with fail
  go_step3
  go_wp2_with fail
  obtain ⟨F2, hF2⟩ : ∃ F2, F2 = upd F1 1046 (.int .i64 0) := ⟨_, rfl⟩
  rw [← hF2] at H2 HFO
  obtain ⟨w2, hw2⟩ : ∃ w2, w2 = (w1.setCell ⟨b, 1036, none⟩ (.int .i64 (-1))).setCell ⟨b, 1046, none⟩ (.int .i64 0) := ⟨_, rfl⟩
  rw [← hw2] at H2 FR2 ⊢
  clear c36 f36 f46 c46 hF2 hw2 H HF h38 hF1 h46' e46 v46 x36
  go_loopg [3] (s.size - p) (fun k c wr => ∃ p' : Nat, c = .int .i32 (chr s p') ∧ p' + k = s.size ∧ RowKit.Hid (p' + blks (s.data.toList.drop p') = t) ∧ RowKit.Hid (Cur s rb B b F2 p' none wr) ∧ RowKit.Hid (Fr B b rb w wr))
  case atStart => exact ⟨p, rfl, by omega, HT, H2, FR2⟩
  case round =>
    obtain ⟨p', rfl, hk, k3, k4, k5⟩ := hrel
    have c42 := k4.out.cell (by omega) HFO.out.2.c42
    by_cases hg : ∃ hlt : p' < s.size, isBlank s[p'] = true
    · obtain ⟨hlt, hg⟩ := hg
      have hws : (bits BinOp.and IntKind.u64 4294977024 (IntKind.u64.wrap (2 ^ min (IntKind.u64.wrap (chr s p')).toNat 64)) != 0) = true := (wsp_at HA.out hlt).trans hg
      have HG2 := Lib.hid hg; clear hg
      go_wp2_with fail
      refine (next_cur s rb B b F2 p' none _ k4.out HA.out (HG.out.keep k5.out.1 hB9) hB9).mono ?_
      rintro e w3 ⟨rfl, h3, f3⟩
      rw [nx_lt hlt] at h3 ⊢
      have H3 := Lib.hid h3; clear h3
      have F3 := Lib.hid f3; clear f3
      go_wp2_with fail
      go_roundg (gk - 1)
      case rel =>
        refine ⟨p' + 1, rfl, by omega, ?_, H3, Lib.hid (k5.out.trans F3.out)⟩
        have := k3.out
        rw [drop_at s p' hlt] at this
        simp only [blks, HG2.out, if_true] at this
        exact Lib.hid (by omega)
      case measure => omega
    · have hws : (bits BinOp.and IntKind.u64 4294977024 (IntKind.u64.wrap (2 ^ min (IntKind.u64.wrap (chr s p')).toNat 64)) != 0) = false := by
        by_cases hlt : p' < s.size
        · refine (wsp_at HA.out hlt).trans ?_
          cases h : isBlank s[p'] with | false => rfl | true => exact absurd ⟨hlt, h⟩ hg
        · rw [chr_ge hlt]; exact wsp_end
      have hz : blks (s.data.toList.drop p') = 0 := by
        by_cases hlt : p' < s.size
        · rw [drop_at s _ hlt]; cases h : isBlank s[p'] with | false => simp [blks, h] | true => exact absurd ⟨hlt, h⟩ hg
        · rw [drop_end s _ (by omega)]; rfl
      obtain rfl : p' = t := by have := k3.out; rw [hz] at this; exact this
      clear hz hg hk HT k3
      obtain ⟨R, pos, en, off, tb, hI, hok, hT, hq, hFR, hrb, hne, pr, hr⟩ := k4.out
      go_wp2_with fail
      refine (reset_any B b R tb wr hI).mono ?_
      rintro e w3 ⟨rfl, hI3, hb3, ho3⟩
      have hr3 : w3.heap[rb]? = some (.cells #[.string s, .int .i64 (off + en : Nat), .int .i64 pr] 154 (0, 0)) := ho3 rb _ hr (fun e => hne (Option.some.inj e)) (fun c fz e => by simp at e)
      have f3 : Fr B b rb w w3 := k5.out.trans (Fr.of hb3 ho3)
      clear hI hb3 ho3 hr k4 k5 c42 hws
      go_wp2_with fail
      obtain ⟨tp, htp⟩ : ∃ tp : Nat, tp = pos - nl s p' := ⟨_, rfl⟩
      have hla := hok.hla
      have hpos := hok.hpos
      have hen := hok.hen
      have hofs := hok.hoff
      have hss := hok.hs
      have hnx : nx s p' = p' + nl s p' := by unfold nx nl; split <;> omega
      obtain ⟨P, hP⟩ : ∃ P : Int, P = pos := ⟨_, rfl⟩
      obtain ⟨L, hL⟩ : ∃ L : Int, L = nl s p' := ⟨_, rfl⟩
      obtain ⟨O, hO⟩ : ∃ O : Int, O = off := ⟨_, rfl⟩
      obtain ⟨K, hK⟩ : ∃ K : Int, K = tp := ⟨_, rfl⟩
      have c26 : w3.cell? ⟨b, 1026, none⟩ = some (.int .i64 P) := by rw [hP]; exact at_cell hI3 hok.cpos (by omega)
      have c32 : w3.cell? ⟨b, 1032, none⟩ = some (.int .i64 L) := by rw [hL]; exact at_cell hI3 hok.cla (by omega)
      have c36 := at_cell hI3 (show R 1036 = _ from hT) (by omega)
      have f36 := hI3.notFrozen 1036
      have hwp : wrap64 (P - L) = K := by unfold wrap64; omega
      have hT4 : Tk s (upd R 1036 (.int .i64 K)) [] (pos - nl s p') off (some p') := ⟨tp, by rw [upd_at, hK], by omega, by omega, by unfold seg; rw [show off + tp - p' = 0 by omega]; rfl⟩
      have hS4 : ∀ W, W = (w3.setCell ⟨b, 1036, none⟩ (.int .i64 K)).drew → St s rb B b F2 (nx s p') (nl s p') (some p') W ∧ Fr B b rb w W ∧ W.cell? ⟨b, 1028, none⟩ = some (.int .i64 O) ∧ W.cell? ⟨b, 1036, none⟩ = some (.int .i64 K) := by
        intro W hW
        subst hW
        have hI4 : IsB B b (upd R 1036 (.int .i64 K)) [] (w3.setCell ⟨b, 1036, none⟩ (.int .i64 K)).drew := (hI3.set 1036 (by omega) (by rw [show R 1036 = _ from hT]; rfl) _).drew
        refine ⟨⟨upd R 1036 (.int .i64 K), pos, en, off, [], hI4, hok.same (fun j hj => upd_ne _ _ _ _ (by omega)), hT4, hq, fun j hj => (upd_ne _ _ _ _ (by omega)).trans (hFR j hj), hrb, hne, pr, (Below.heap_setCell _ _ _ _ hne).trans hr3⟩, (f3.set hB _ _).drewN 1, ?_, at_cell hI4 (upd_at _ _ _) (by omega)⟩
        rw [hO]; exact at_cell hI4 ((upd_ne _ _ _ _ (by omega)).trans hok.coff) (by omega)
      have HS4 := Lib.hid hS4; clear hS4 hT4
      clear hok hT hFR hr3 f3 hI3 hq hla hpos hen hofs hss hnx hP hL hO hK htp
      go_still_tail 12, (by kernel_rfl)
      change wpList _ _ _ _ _ w3.drew
      go_wp2_with fail
      rw [hwp]
      obtain ⟨W4, hW4⟩ : ∃ W4, W4 = (w3.setCell ⟨b, 1036, none⟩ (.int .i64 K)).drew := ⟨_, rfl⟩
      rw [← hW4]
      obtain ⟨h4, fr4, c28, c36'⟩ := HS4.out W4 hW4
      clear HS4 hW4 c26 c32 c36 f36 hwp
      obtain ⟨v45, e45⟩ := Option.isSome_iff_exists.1 HFO.out.2.c45
      have c45 := h4.cell (by omega) e45
      have f45 := h4.frozen 1045
      have H4 := Lib.hid h4; clear h4
      have FR4 := Lib.hid fr4; clear fr4
      go_still_tail 13, (by kernel_rfl)
      change wpList _ _ _ _ _ W4.drew
      go_upto_region 9 with fail
      obtain ⟨W5, hW5⟩ : ∃ W5, W5 = (W4.setCell ⟨b, 1045, none⟩ (.int .i64 (wrap64 (O + K)))).drew := ⟨_, rfl⟩
      rw [← hW5]
      have h5 : St s rb B b (upd F2 1045 (.int .i64 (wrap64 (O + K)))) (nx s p') (nl s p') (some p') W5 := by rw [hW5]; exact (H4.out.set 1045 (by omega) (by rw [e45]; rfl) _).drewN 1
      have fr5 : Fr B b rb w W5 := by rw [hW5]; exact (FR4.out.set hB _ _).drewN 1
      clear hW5 H4 FR4 c28 c36' c45 f45 W4
      obtain ⟨⟨line, c29⟩, ⟨col, c30⟩, ⟨last, c31⟩⟩ := h5.ints
      obtain ⟨v46, e46⟩ := Option.isSome_iff_exists.1 HFO.out.2.c46
      obtain ⟨v47, e47⟩ := Option.isSome_iff_exists.1 HFO.out.2.c47
      have c46 := h5.cell (by omega) ((upd_ne _ 1045 1046 _ (by omega)).trans e46)
      have c47 := h5.cell (by omega) ((upd_ne _ 1045 1047 _ (by omega)).trans e47)
      have f46 := h5.frozen 1046
      have f47 := h5.frozen 1047
      have H5 := Lib.hid h5; clear h5
      have FR5 := Lib.hid fr5; clear fr5
      go_upto_if 58 with fail
      go_cut [] (fun wx => ∃ x y : Int, wx = (W5.setCell ⟨b, 1046, none⟩ (.int .i64 x)).setCell ⟨b, 1047, none⟩ (.int .i64 y))
      case first =>
       as_aux_lemma =>
        by_cases hc : 0 < col
        · go_wp2_with fail
          go_meet
          case rel => exact ⟨_, _, rfl⟩
        · go_wp2_with fail
          go_meet
          case rel => exact ⟨_, _, rfl⟩
      case rest =>
        obtain ⟨x, y, rfl⟩ := hcut
        obtain ⟨W6, hW6⟩ : ∃ W6, W6 = (W5.setCell ⟨b, 1046, none⟩ (.int .i64 x)).setCell ⟨b, 1047, none⟩ (.int .i64 y) := ⟨_, rfl⟩
        rw [← hW6]
        obtain ⟨F6, hF6⟩ : ∃ F6, F6 = upd (upd (upd F2 1045 (.int .i64 (wrap64 (O + K)))) 1046 (.int .i64 x)) 1047 (.int .i64 y) := ⟨_, rfl⟩
        have h6 : Cur s rb B b F6 p' (some p') W6 := by
          rw [hW6, hF6]
          refine St.set (St.set H5.out 1046 (by omega) ?_ _) 1047 (by omega) ?_ _
          · rw [upd_ne _ _ _ _ (by omega), e46]; rfl
          · rw [upd_ne _ _ _ _ (by omega), upd_ne _ _ _ _ (by omega), e47]; rfl
        have fr6 : Fr B b rb w W6 := by rw [hW6]; exact (FR5.out.set hB _ _).set hB _ _
        have ag6 : AgF F F6 ∧ FOk F6 := by
          obtain ⟨ag, fo⟩ := HFO.out
          rw [hF6]
          refine ⟨fun k k1 k2 k3 k4 k5 => by rw [upd_ne _ _ _ _ k5, upd_ne _ _ _ _ k4, upd_ne _ _ _ _ k3]; exact ag k k1 k2 k3 k4 k5, ?_⟩
          constructor
          · rw [upd_ne _ _ _ _ (by omega), upd_ne _ _ _ _ (by omega), upd_ne _ _ _ _ (by omega)]; exact fo.c37
          · rw [upd_ne _ _ _ _ (by omega), upd_ne _ _ _ _ (by omega), upd_ne _ _ _ _ (by omega)]; exact fo.c38
          · rw [upd_ne _ _ _ _ (by omega), upd_ne _ _ _ _ (by omega), upd_ne _ _ _ _ (by omega)]; exact fo.c41
          · rw [upd_ne _ _ _ _ (by omega), upd_ne _ _ _ _ (by omega), upd_ne _ _ _ _ (by omega)]; exact fo.c42
          · rw [upd_ne _ _ _ _ (by omega), upd_ne _ _ _ _ (by omega), upd_ne _ _ _ _ (by omega)]; exact fo.c43
          · rw [upd_ne _ _ _ _ (by omega), upd_ne _ _ _ _ (by omega), upd_at]; rfl
          · rw [upd_ne _ _ _ _ (by omega), upd_at]; rfl
          · rw [upd_at]; rfl
        have H6 := Lib.hid h6; clear h6
        have FR6 := Lib.hid fr6; clear fr6
        have AG6 := Lib.hid ag6; clear ag6
        clear H5 FR5 c29 c30 c31 c46 c47 f46 f47 e46 e47 e45 hW6 hF6 HFO FR2 H2
        go_upto_block 2 with fail
        go_cut [3, 4] (fun c tk wx => ∃ tokv : Int, c = .int .i32 (chr s E) ∧ tk = .int .i32 tokv ∧ (tokv == -1) = eof ∧ RowKit.Hid (Cur s rb B b F6 E (some p') wx) ∧ RowKit.Hid (Fr B b rb w wx))
        case first =>
         as_aux_lemma =>
          have c41 := H6.out.cell (by omega) AG6.out.2.c41
          have c43 := H6.out.cell (by omega) AG6.out.2.c43
          have b4 : bits BinOp.and IntKind.u64 28 4 = 4 := by decide +kernel
          have b24 : bits BinOp.and IntKind.u64 28 24 = 24 := by decide +kernel
          have b16 : bits BinOp.and IntKind.u64 28 16 = 16 := by decide +kernel
          have hk := HK.out
          clear HK
          have hG6 := HG.out.keep FR6.out.1 hB9
          have HG6 := Lib.hid hG6; clear hG6
          cases hk with
          | fin h =>
            have hlt : ¬ E < s.size := by omega
            have hi : idr (chr s E) 0 = false := idr_end hlt 0
            have hd : dec (chr s E) = false := dec_end hlt
            have h1 : (chr s E == -1) = true := by rw [chr_ge hlt]; rfl
            have hc := chr_ge hlt
            have HC := Lib.hid hc; clear hc h hlt
            go_wp2_with (first | (go_at_call 88; refine (isIdentRune_c b _ _ _ c43).mono ?_; rintro e w' ⟨rfl, rfl⟩) | (go_at_call 90; refine (isDecimal_c _ _).mono ?_; rintro e w' ⟨rfl, rfl⟩))
            go_meet
            case rel => exact ⟨_, rfl, rfl, h1, H6, FR6⟩
          | word h hl =>
            have hi : idr (chr s p') 0 = true := idr0_let HA.out h hl
            clear hl
            go_wp2_with (first | (go_at_call 88; refine (isIdentRune_c b _ _ _ c43).mono ?_; rintro e w' ⟨rfl, rfl⟩) | (go_at_call 90; refine (isDecimal_c _ _).mono ?_; rintro e w' ⟨rfl, rfl⟩))
            refine (scanIdentifier_any s rb B b F6 p' _ _ H6.out h HA.out HG6.out hB9 AG6.out.2.c43).mono ?_
            rintro e w7 ⟨rfl, h7, f7⟩
            have H7 := Lib.hid h7; clear h7
            have F7 := Lib.hid f7; clear f7
            go_wp2_with fail
            go_meet
            case rel => exact ⟨_, rfl, rfl, rfl, H7, Lib.hid (FR6.out.trans F7.out)⟩
          | num h hl D dot m hP hE =>
            obtain ⟨l1, l2⟩ := let_dig _ hl
            have hi : idr (chr s p') 0 = false := idr0_not HA.out h l1 l2
            have hd : dec (chr s p') = true := by rw [dec_dig h]; exact hl
            have HL := Lib.hid hl; clear hl l1 l2
            have HP := Lib.hid hP; clear hP
            go_wp2_with (first | (go_at_call 88; refine (isIdentRune_c b _ _ _ c43).mono ?_; rintro e w' ⟨rfl, rfl⟩) | (go_at_call 90; refine (isDecimal_c _ _).mono ?_; rintro e w' ⟨rfl, rfl⟩))
            refine (scanNumber_any s rb B b F6 p' p' _ _ false D dot m H6.out HA.out HU.out HG6.out hB9 AG6.out.2.c41 HP.out h hE (.inl ⟨rfl, rfl, HL.out⟩)).mono ?_
            rintro e w7 ⟨tok, rfl, ht, h7, f7⟩
            have hne1 : (tok == -1) = false := beq_false_of_ne (by omega)
            have H7 := Lib.hid h7; clear h7
            have F7 := Lib.hid f7; clear f7
            go_wp2_with fail
            go_meet
            case rel => exact ⟨_, rfl, rfl, hne1, H7, Lib.hid (FR6.out.trans F7.out)⟩
          | point h hl hd m hP hE =>
            obtain ⟨h1, hd⟩ := hd
            have hc46 : chr s p' = 46 := by rw [chr_lt h, hl]; rfl
            have hi : idr (chr s p') 0 = false := idr0_not HA.out h (by rw [hl]; rfl) (by rw [hl]; decide)
            rw [hc46] at hi ⊢
            have hd0 : dec 46 = false := by decide
            have hd1 : dec (chr s (p' + 1)) = true := by rw [dec_dig h1]; exact hd
            have HP := Lib.hid hP; clear hP
            clear hl
            go_wp2_with (first | (go_at_call 88; refine (isIdentRune_c b _ _ _ c43).mono ?_; rintro e w' ⟨rfl, rfl⟩) | (go_at_call 90; refine (isDecimal_c _ _).mono ?_; rintro e w' ⟨rfl, rfl⟩))
            refine (next_cur s rb B b F6 p' _ _ H6.out HA.out HG6.out hB9).mono ?_
            rintro e w7 ⟨rfl, h7, f7⟩
            rw [nx_lt h] at h7 ⊢
            have c41' := h7.cell (by omega) AG6.out.2.c41
            have H7 := Lib.hid h7; clear h7
            have F7 := Lib.hid (FR6.out.trans f7); clear f7
            go_wp2_with (first | (go_at_call 88; refine (isIdentRune_c b _ _ _ c43).mono ?_; rintro e w' ⟨rfl, rfl⟩) | (go_at_call 90; refine (isDecimal_c _ _).mono ?_; rintro e w' ⟨rfl, rfl⟩))
            refine (scanNumber_any s rb B b F6 p' (p' + 1) _ _ true 0 true m H7.out HA.out HU.out (HG.out.keep F7.out.1 hB9) hB9 AG6.out.2.c41 HP.out h hE (.inr ⟨rfl, rfl, rfl, rfl⟩)).mono ?_
            rintro e w8 ⟨tok, rfl, ht, h8, f8⟩
            have hne1 : (tok == -1) = false := beq_false_of_ne (by omega)
            have H8 := Lib.hid h8; clear h8
            have F8 := Lib.hid f8; clear f8
            go_wp2_with fail
            go_meet
            case rel => exact ⟨_, rfl, rfl, hne1, H8, Lib.hid (F7.out.trans F8.out)⟩
          | sign h hl =>
            obtain ⟨l1, l2, l3, l4⟩ := sign_not _ hl
            have hi : idr (chr s p') 0 = false := idr0_not HA.out h l1 l2
            have hd : dec (chr s p') = false := by rw [dec_dig h]; exact l3
            rw [← chr_lt h] at l4
            have q1 : (chr s p' == -1) = false := beq_false_of_ne (by omega)
            have q2 : (chr s p' == 34) = false := beq_false_of_ne (by omega)
            have q3 : (chr s p' == 39) = false := beq_false_of_ne (by omega)
            have q4 : (chr s p' == 46) = false := beq_false_of_ne (by omega)
            have q5 : (chr s p' == 47) = false := beq_false_of_ne (by omega)
            have q6 : (chr s p' == 96) = false := beq_false_of_ne (by omega)
            clear hl l1 l2 l3 l4
            go_wp2_with (first | (go_at_call 88; refine (isIdentRune_c b _ _ _ c43).mono ?_; rintro e w' ⟨rfl, rfl⟩) | (go_at_call 90; refine (isDecimal_c _ _).mono ?_; rintro e w' ⟨rfl, rfl⟩))
            refine (next_cur s rb B b F6 p' _ _ H6.out HA.out HG6.out hB9).mono ?_
            rintro e w7 ⟨rfl, h7, f7⟩
            rw [nx_lt h] at h7 ⊢
            have H7 := Lib.hid h7; clear h7
            have F7 := Lib.hid (FR6.out.trans f7); clear f7
            go_wp2_with fail
            go_meet
            case rel => exact ⟨_, rfl, rfl, q1, H7, F7⟩
        case rest =>
          obtain ⟨tokv, rfl, rfl, htv, h7, f7⟩ := hcut
          have HTV := Lib.hid htv; clear htv
          clear H6 FR6 W6
          obtain ⟨R, pos, en, off, tb, hI, hok, hT, hq, hFR, hrb, hne, pr, hr⟩ := h7.out
          have f7' := f7.out
          have hsome : (F6 1037).isSome = true := AG6.out.2.c37
          obtain ⟨te, hte⟩ : ∃ te : Nat, te = pos - nl s E := ⟨_, rfl⟩
          have hla := hok.hla
          obtain ⟨P, hP⟩ : ∃ P : Int, P = pos := ⟨_, rfl⟩
          obtain ⟨L, hL⟩ : ∃ L : Int, L = nl s E := ⟨_, rfl⟩
          obtain ⟨K2, hK2⟩ : ∃ K : Int, K = te := ⟨_, rfl⟩
          have hs := hok.hs
          have hen := hok.hen
          have hpos := hok.hpos
          have c26 : wc.cell? ⟨b, 1026, none⟩ = some (.int .i64 P) := by rw [hP]; exact at_cell hI hok.cpos (by omega)
          have c32 : wc.cell? ⟨b, 1032, none⟩ = some (.int .i64 L) := by rw [hL]; exact at_cell hI hok.cla (by omega)
          obtain ⟨v37, e37⟩ := Option.isSome_iff_exists.1 hsome
          have c37 := at_cell hI ((hFR 1037 (by omega)).trans e37) (by omega)
          have f37 := hI.notFrozen 1037
          have hwp : wrap64 (P - L) = K2 := by unfold wrap64; omega
          have hS8 : ∀ W, W = (wc.setCell ⟨b, 1037, none⟩ (.int .i64 K2)).drew → Toke s rb B b (upd F6 1037 (.int .i64 K2)) p' E W ∧ Fr B b rb w W := by
            intro W hW
            subst hW
            refine ⟨⟨upd R 1037 (.int .i64 K2), pos, en, off, tb, (hI.set 1037 (by omega) (by rw [hFR 1037 (by omega), e37]; rfl) _).drew, hok.same (fun j hj => upd_ne _ _ _ _ (by omega)), hT.same (upd_ne _ _ _ _ (by omega)), hq, fun j hj => ?_, hrb, hne, ⟨pr, (Below.heap_setCell _ _ _ _ hne).trans hr⟩, by rw [upd_at, hK2, hte]⟩, (f7'.set hB _ _).drewN 1⟩
            unfold upd
            split
            · rfl
            · exact hFR j hj
          have HS8 := Lib.hid hS8; clear hS8
          clear hok hT hFR hr hI hq hla hpos hen hs hP hL hK2 hte hsome h7 f7 f7' HK
          go_upto_region 54 with fail
          go_still_tail 12, (by kernel_rfl)
          change wpList _ _ _ _ _ wc.drew
          go_upto_region 55 with fail
          rw [hwp]
          obtain ⟨W8, hW8⟩ : ∃ W8, W8 = (wc.setCell ⟨b, 1037, none⟩ (.int .i64 K2)).drew := ⟨_, rfl⟩
          rw [← hW8]
          obtain ⟨tk8, fr8⟩ := HS8.out W8 hW8
          clear HS8 hW8 c26 c32 c37 f37 hwp
          obtain ⟨R8, pos8, en8, off8, tb8, hI8, hok8, hT8, hq8, hFR8, hrb8, hne8, hr8, h378⟩ := tk8
          obtain ⟨v38, e38⟩ := Option.isSome_iff_exists.1 AG6.out.2.c38
          have e38' : R8 1038 = some v38 := (hFR8 1038 (by omega)).trans ((upd_ne _ _ _ _ (by omega)).trans e38)
          have c38 := at_cell hI8 e38' (by omega)
          have f38 := hI8.notFrozen 1038
          have htk9 : Toke s rb B b (upd (upd F6 1037 (.int .i64 K2)) 1038 (.int .i32 (chr s E))) p' E (W8.setCell ⟨b, 1038, none⟩ (.int .i32 (chr s E))) := by
            obtain ⟨pr8, hr8⟩ := hr8
            refine ⟨upd R8 1038 (.int .i32 (chr s E)), pos8, en8, off8, tb8, hI8.set 1038 (by omega) (by rw [e38']; rfl) _, hok8.same (fun j hj => upd_ne _ _ _ _ (by omega)), hT8.same (upd_ne _ _ _ _ (by omega)), hq8, fun j hj => ?_, hrb8, hne8, ⟨pr8, (Below.heap_setCell _ _ _ _ hne8).trans hr8⟩, by rw [upd_ne _ _ _ _ (by omega)]; exact h378⟩
            show (if j = 1038 then _ else _) = (if j = 1038 then _ else _)
            split
            · rfl
            · exact hFR8 j hj
          have TK9 := Lib.hid htk9; clear htk9
          have FR9 := Lib.hid fr8; clear fr8
          clear hI8 hok8 hT8 hq8 hFR8 hr8 h378 e38'
          go_wp2_with fail
          rw [Exit.noGoto_ret]
          go_ret
          refine ⟨tokv, rfl, HTV.out, _, ?_, ?_, upd_at _ _ _, TK9.out, FR9.out.set hB _ _⟩
          · intro k k1 k2 k3 k4 k5
            rw [upd_ne _ _ _ _ k2, upd_ne _ _ _ _ k1]
            exact AG6.out.1 k k1 k2 k3 k4 k5
          · have fo := AG6.out.2
            constructor
            · rw [upd_ne _ _ _ _ (by omega), upd_at]; rfl
            · rw [upd_at]; rfl
            · rw [upd_ne _ _ _ _ (by omega), upd_ne _ _ _ _ (by omega)]; exact fo.c41
            · rw [upd_ne _ _ _ _ (by omega), upd_ne _ _ _ _ (by omega)]; exact fo.c42
            · rw [upd_ne _ _ _ _ (by omega), upd_ne _ _ _ _ (by omega)]; exact fo.c43
            · rw [upd_ne _ _ _ _ (by omega), upd_ne _ _ _ _ (by omega)]; exact fo.c45
            · rw [upd_ne _ _ _ _ (by omega), upd_ne _ _ _ _ (by omega)]; exact fo.c46
            · rw [upd_ne _ _ _ _ (by omega), upd_ne _ _ _ _ (by omega)]; exact fo.c47

end Go.Proofs.YtblpcpkkjbkakaaGreatDoor
/- The lexer's next token. -/
namespace Go.Proofs.YtblpcpkkjbkakaaGreatDoor
open Go Go.RowKit
set_option linter.unusedVariables false
set_option linter.unusedSimpArgs false

theorem Rdy.set {s : ByteArray} {rb B b : Nat} {F : Nat → Option Value} {p : Nat} {w : World} (h : Rdy s rb B b F p w) (k : Nat) (hk : 1037 ≤ k) (hk2 : k ≠ 1038) (hold : (F k).isSome = true) (v : Value) : Rdy s rb B b (upd F k v) p (w.setCell ⟨b, k, none⟩ v) := by
  rcases h with ⟨h1, h2, T, h3⟩ | ⟨h2, T, h3⟩
  · exact .inl ⟨h1, by rw [upd_ne _ _ _ _ (fun e => hk2 e.symm)]; exact h2, T, h3.set k hk hold v⟩
  · exact .inr ⟨by rw [upd_ne _ _ _ _ (fun e => hk2 e.symm)]; exact h2, T, h3.set k hk hold v⟩
theorem Rdy.alloc {s : ByteArray} {rb B b : Nat} {F : Nat → Option Value} {p : Nat} {w : World} (h : Rdy s rb B b F p w) (o : Obj) : Rdy s rb B b F p (w.alloc o) := by
  rcases h with ⟨h1, h2, T, h3⟩ | ⟨h2, T, h3⟩
  · exact .inl ⟨h1, h2, T, h3.alloc o⟩
  · exact .inr ⟨h2, T, h3.alloc o⟩
theorem Rdy.cell {s : ByteArray} {rb B b : Nat} {F : Nat → Option Value} {p : Nat} {w : World} (h : Rdy s rb B b F p w) {k : Nat} {v : Value} (hk : 1037 ≤ k) (hv : F k = some v) : w.cell? ⟨b, k, none⟩ = some v := by
  rcases h with ⟨h1, h2, T, h3⟩ | ⟨h2, T, h3⟩ <;> exact h3.cell hk hv
theorem Rdy.frozen {s : ByteArray} {rb B b : Nat} {F : Nat → Option Value} {p : Nat} {w : World} (h : Rdy s rb B b F p w) (k : Nat) : w.frozen? ⟨b, k, none⟩ = false := by
  rcases h with ⟨h1, h2, T, h3⟩ | ⟨h2, T, h3⟩ <;> exact h3.frozen k
theorem Rdy.lt {s : ByteArray} {rb B b : Nat} {F : Nat → Option Value} {p : Nat} {w : World} (h : Rdy s rb B b F p w) : B ≤ b ∧ b < w.heap.size ∧ rb < w.heap.size ∧ B ≤ rb ∧ rb ≠ b := by
  rcases h with ⟨h1, h2, T, h3⟩ | ⟨h2, T, h3⟩ <;> exact h3.lt

theorem Toke.cur {s : ByteArray} {rb B b : Nat} {F : Nat → Option Value} {t E : Nat} {w : World} (h : Toke s rb B b F t E w) : Cur s rb B b F E (some t) w := by
  obtain ⟨R, pos, en, off, tb, h1, h2, h3, h4, h5, h6, h7, h8, _⟩ := h
  exact ⟨R, pos, en, off, tb, h1, h2, h3, h4, h5, h6, h7, h8⟩
/-- The lexer's cells. -/
structure LOk (F : Nat → Option Value) : Prop where
  fok : FOk F
  c48 : F 1048 = some (.string ⟨#[]⟩)
  c39 : (F 1039).isSome = true
/-- The variable of the end's error. -/
def GlE (w : World) : Prop := ∃ x, w.cell? ⟨1, 0, none⟩ = some (.string x)

def LNextPost (s : ByteArray) (rb B b : Nat) (t E : Nat) (eof : Bool) (w : World) (e : Ending) (w' : World) : Prop :=
  (∃ x v, e = .returned (.tuple #[x, v]) ∧ (eof = true → ∃ y, v = .iface 109 y) ∧ (eof = false → x = .string ⟨(seg s t E).toArray⟩ ∧ v = .nilIface ∧ ∃ F', LOk F' ∧ Rdy s rb B b F' E w')) ∧ Fr B b rb w w'

set_option maxRecDepth 100000 in
set_option maxHeartbeats 2000000 in
theorem lexNext_any (s : ByteArray) (rb B b : Nat) (F : Nat → Option Value) (p t E : Nat) (eof : Bool) (w : World) (h : Rdy s rb B b F p w) (hps : p ≤ s.size) (ha : Plain s) (hu : NoBar s) (hG : Gl w) (hGE : GlE w) (hB9 : 9 ≤ B) (hF : LOk F)
   (ht : p + blks (s.data.toList.drop p) = t) (hK : TokAt s t E eof) :
    Calls Tryz.prog 42 #[.pointer (some ⟨b, 0, none⟩)] w (LNextPost s rb B b t E eof w) := by
  obtain ⟨hBb, hbl, hrl, hBr, hne⟩ := h.lt
  have c48 := h.cell (by omega) hF.c48
  obtain ⟨v39, e39⟩ := Option.isSome_iff_exists.1 hF.c39
  obtain ⟨m, hm⟩ : ∃ m, m = w.heap.size := ⟨_, rfl⟩
  have HM := Lib.hid hm; clear hm
  have H := Lib.hid h; clear h
  have HA := Lib.hid ha; clear ha
  have HU := Lib.hid hu; clear hu
  have HG := Lib.hid hG; clear hG
  have HGE := Lib.hid hGE; clear hGE
  have HF := Lib.hid hF; clear hF
  have HT := Lib.hid ht; clear ht
  have HK := Lib.hid hK; clear hK
  go_enter Tryz.func42, Tryz.ntmps42
  go_upto_region 6 with fail
  have hm := HM.out
  rw [← hm] at hbl hrl ⊢
  obtain ⟨W1, hW1⟩ : ∃ W1, W1 = w.alloc (Obj.cells #[Value.nilIface] 37) := ⟨_, rfl⟩
  rw [← hW1]
  have h1 : Rdy s rb B b F p W1 := by rw [hW1]; exact H.out.alloc _
  have f1 : Fr B b rb w W1 := by rw [hW1]; exact (Fr.refl _ _ _ _).alloc (by omega) _
  have ev1 : W1.heap[m]? = some (Obj.cells #[Value.nilIface] 37) := by rw [hW1, hm]; exact Go.Proofs.YtblpcpkkjbkakaaGreatDoor.heap_alloc_new _ _
  clear hW1 hm c48 H
  have c39 := h1.cell (by omega) e39
  have f39 := h1.frozen 1039
  have H1 := Lib.hid h1; clear h1
  have F1 := Lib.hid f1; clear f1
  have E1 := Lib.hid ev1; clear ev1
  go_wp2_with fail
  refine (scan_any s rb B b (upd F 1039 (Value.func (Fn.func 66) #[] #[Value.pointer (some { block := m, off := 0 })])) p t E eof _ (H1.out.set 1039 (by omega) (by omega) (by rw [e39]; rfl) _) hps HA.out HU.out ((HG.out.keep F1.out.1 hB9).keep ((Fr.refl B b rb W1).set hBb 1039 _).1 hB9) hB9 ?_ HT.out HK.out).mono ?_
  · have fo := HF.out.fok
    constructor
    · rw [upd_ne _ _ _ _ (by omega)]; exact fo.c37
    · rw [upd_ne _ _ _ _ (by omega)]; exact fo.c38
    · rw [upd_ne _ _ _ _ (by omega)]; exact fo.c41
    · rw [upd_ne _ _ _ _ (by omega)]; exact fo.c42
    · rw [upd_ne _ _ _ _ (by omega)]; exact fo.c43
    · rw [upd_ne _ _ _ _ (by omega)]; exact fo.c45
    · rw [upd_ne _ _ _ _ (by omega)]; exact fo.c46
    · rw [upd_ne _ _ _ _ (by omega)]; exact fo.c47
  rintro e w3 ⟨tokv, rfl, htv, F', ag, fo, h38, tk, f3⟩
  have ev3 := f3.2 m _ ((Below.heap_setCell W1 ⟨b, 1039, none⟩ (Value.func (Fn.func 66) #[] #[Value.pointer (some { block := m, off := 0 })]) m (by show m ≠ b; omega)).trans E1.out) (by omega) (by omega) (fun c fz e => by simp at e)
  have cev : w3.cell? ⟨m, 0, none⟩ = some .nilIface := by rw [Lib.cell_of_heap ev3]; rfl
  have fr3 : Fr B b rb w w3 := (F1.out.set hBb _ _).trans f3
  have hlok : LOk F' := by
    refine ⟨fo, ?_, ?_⟩
    · rw [ag 1048 (by omega) (by omega) (by omega) (by omega) (by omega), upd_ne _ _ _ _ (by omega)]; exact HF.out.c48
    · rw [ag 1039 (by omega) (by omega) (by omega) (by omega) (by omega), upd_at]; rfl
  have TK := Lib.hid tk; clear tk
  have FR := Lib.hid fr3; clear fr3
  have LO := Lib.hid hlok; clear hlok
  have C38 := Lib.hid h38; clear h38
  clear f3 ag fo ev3 E1 F1 H1 c39 f39 HT HK W1
  cases eof with
  | true =>
    obtain ⟨xe, hxe⟩ := HGE.out
    have cge : w3.cell? ⟨1, 0, none⟩ = some (.string xe) := (FR.out.1.cell (p := ⟨1, 0, none⟩) (by show 1 < B; omega)).trans hxe
    clear hxe
    go_upto_region 11 with fail
    go_quiet (fail)
    go_wp2_with fail
    go_ret2
    exact ⟨⟨_, _, rfl, fun _ => ⟨_, rfl⟩, fun h => by cases h⟩, FR.out.drewN nq⟩
  | false =>
    go_wp2_with fail
    refine (tokenText_any s rb B b F' t E _ TK.out).mono ?_
    rintro e w4 ⟨rfl, tk4, f4⟩
    have TK4 := Lib.hid tk4; clear tk4
    have F4 := Lib.hid f4; clear f4
    go_wp2_with fail
    go_ret2
    exact ⟨⟨_, _, rfl, (fun h => by cases h), fun _ => ⟨rfl, rfl, F', LO.out, .inr ⟨C38.out, _, TK4.out.cur⟩⟩⟩, FR.out.trans F4.out⟩

end Go.Proofs.YtblpcpkkjbkakaaGreatDoor
