/- Lemmas towards the seat's laws: 7 texts joined. -/
import Derived.Test.YtblpcpkkjbkakaaGreatDoorY31
import Derived.Test.YtblpcpkkjbkakaaGreatDoorY25
import Derived.Test.YtblpcpkkjbkakaaGreatDoorY23
import Derived.Test.YtblpcpkkjbkakaaGreatDoorY29
import Derived.Test.YtblpcpkkjbkakaaGreatDoorY08
import Derived.Test.YtblpcpkkjbkakaaGreatDoorY34
import Derived.Test.YtblpcpkkjbkakaaGreatDoorY35
import Derived.Test.YtblpcpkkjbkakaaGreatDoorY32
import Derived.Test.YtblpcpkkjbkakaaGreatDoorY03
import Derived.Test.YtblpcpkkjbkakaaGreatDoorY28
/- A decimal's reading with all its ways: the plain law; what a decimal's block is when it is made. -/
namespace Go.Proofs.YtblpcpkkjbkakaaGreatDoor
open Go Go.RowKit
set_option linter.unusedVariables false
set_option linter.unusedSimpArgs false

theorem fbM_fine (m : Nat) (e : Int) (q : Nat × Int) (he : -1022 ≤ e) (h9 : e + 1023 < 2047) (h : fbM m e = some q) : fbE q.1 q.2 < 2047 * 4503599627370496 := by
  unfold fbM at h
  split at h
  · split at h
    · cases h
    · have := Option.some.inj h
      subst this
      unfold fbE
      dsimp only
      split
      · omega
      · have : (e + 1 + 1023).toNat ≤ 2046 := by omega
        have := Nat.mul_le_mul_right 4503599627370496 this
        omega
  · have := Option.some.inj h
    subst this
    unfold fbE
    dsimp only
    split
    · have := Nat.mod_lt m (by decide : 0 < 4503599627370496); omega
    · have h1 : (e + 1023).toNat ≤ 2046 := by omega
      have := Nat.mul_le_mul_right 4503599627370496 h1
      have := Nat.mod_lt m (by decide : 0 < 4503599627370496)
      omega
theorem fbT_fine (s : DS) (e : Int) (he : -1022 ≤ e) (x : Nat) (h : fbT s e = some x) : x < 2047 * 4503599627370496 := by
  unfold fbT at h
  split at h
  · cases h
  · cases hm : fbM (riX (lsS 53 s)) e with
    | none => rw [hm] at h; cases h
    | some q =>
      rw [hm] at h
      have := Option.some.inj h
      rw [← this]
      exact fbM_fine _ e q he (by omega) hm
theorem fbX_fine (s : DS) (x : Nat) (h : fbX s = some x) : x < 2047 * 4503599627370496 := by
  unfold fbX at h
  split at h
  · rw [← Option.some.inj h]; decide
  · split at h
    · cases h
    · split at h
      · rw [← Option.some.inj h]; decide
      · unfold fb2 fbU at h
        split at h
        · exact fbT_fine _ _ (by omega) x h
        · exact fbT_fine _ _ (by omega) x h

/-- The table of powers of ten. -/
def p10 (q : Nat) : Nat × Nat := Go.Pinned.pow10Rows.getD q (0, 0)
theorem p10_len : Go.Pinned.pow10Rows.length = 696 := by kernel_rfl
theorem p10_all : (Go.Pinned.pow10Rows.all fun x => decide (x.1 < 18446744073709551616) && decide (x.2 < 18446744073709551616)) = true := by kernel_rfl
theorem p10_lt (q : Nat) : (p10 q).1 < 18446744073709551616 ∧ (p10 q).2 < 18446744073709551616 := by
  unfold p10
  rw [List.getD_eq_getElem?_getD]
  cases h : Go.Pinned.pow10Rows[q]? with
  | none => exact ⟨by decide, by decide⟩
  | some x =>
    have := List.all_eq_true.1 p10_all x (List.mem_of_getElem? h)
    simpa using this
def pfQ (man : Nat) (e : Int) : Nat × Nat := pfX man (e + 348).toNat (p10 (e + 348).toNat).1 (p10 (e + 348).toNat).2
theorem pfQ_fine (man : Nat) (e : Int) (h0 : 0 < man) (he : -345 ≤ e) (he2 : e ≤ 310) : Fine (pfQ man e) := pfX_fine man _ _ _ h0 (by omega) (by omega) (p10_lt _).1
/-- The reading of a decimal: its word without the sign, and the error. -/
def a64 (man : Nat) (e : Int) (tr : Bool) (s : DS) : Nat × Nat :=
  if man = 0 then (0, 0)
  else if 310 < e then (InfW, 1)
  else if e < -345 then (0, 0)
  else if tr then
    (if (Ieee.double.order (pfQ man e).1 (pfQ (man + 1) e).1 == some Ordering.eq) then pfQ man e else ((fbX s).getD infB, if (fbX s).isSome then 0 else 1))
  else match exX man e with
    | some x => (x, 0)
    | none => pfQ man e
theorem inf_fine : Fine (InfW, 1) := .inr rfl
theorem zero_fine : Fine (0, 0) := .inl ⟨rfl, by show (0 : Nat) < 2047 * 2 ^ 52; decide⟩
theorem a64_fine (man : Nat) (e : Int) (tr : Bool) (s : DS) : Fine (a64 man e tr s) := by
  unfold a64
  split
  · exact zero_fine
  · split
    · exact inf_fine
    · split
      · exact zero_fine
      · split
        · split
          · exact pfQ_fine man e (by omega) (by omega) (by omega)
          · cases h : fbX s with
            | none => exact inf_fine
            | some x => exact .inl ⟨rfl, fbX_fine s x h⟩
        · split
          · rename_i x h
            exact .inl ⟨rfl, exX_fine man e x h⟩
          · exact pfQ_fine man e (by omega) (by omega) (by omega)

theorem dz_size : Tryz.zeroCells208.size = 804 := by kernel_rfl
theorem dz_all : (Tryz.zeroCells208.toList.all (·.oneCell')) = true := by kernel_rfl
theorem dz_dig : (Tryz.zeroCells208.toList.take 800) = List.replicate 800 (.int .u8 0) := by kernel_rfl
theorem dz_tail : (Tryz.zeroCells208.toList.drop 800) = [.int .i64 0, .int .i64 0, .bool false, .bool false] := by kernel_rfl
theorem dec_new (w : World) : Dec (w.alloc (.cells Tryz.zeroCells208 208)) w.heap.size 0 (fun _ => 0) 0 false false := by
  have hb := blk_alloc w Tryz.zeroCells208 208 804 dz_size (by rw [← Array.all_toList]; exact dz_all)
  have ht : ∀ i v, (Tryz.zeroCells208.toList.drop 800)[i]? = some v → Tryz.zeroCells208[800 + i]? = some v := fun i v h => by
    rw [List.getElem?_drop] at h
    rw [← Array.getElem?_toList]; exact h
  rw [dz_tail] at ht
  refine ⟨by omega, fun i hi => absurd hi (by omega), _, ⟨hb, fun i hi => ⟨0, by decide, ?_⟩, ht 0 _ rfl, ht 1 _ rfl, ht 2 _ rfl, ht 3 _ rfl⟩, fun i hi => absurd hi (by omega)⟩
  have h : (Tryz.zeroCells208.toList.take 800)[i]? = some (.int .u8 0) := by
    rw [dz_dig, List.getElem?_replicate, if_pos hi]
  rw [List.getElem?_take_of_lt hi] at h
  rw [← Array.getElem?_toList]; exact h

end Go.Proofs.YtblpcpkkjbkakaaGreatDoor
/- atof64 on a decimal. -/
namespace Go.Proofs.YtblpcpkkjbkakaaGreatDoor
open Go Go.RowKit
set_option linter.unusedVariables false
set_option linter.unusedSimpArgs false

/-- What the reading of numbers reads of the package-level variables. -/
structure GlA (g gl gp : Nat × Nat) (w : World) : Prop where
  f : GlF g w
  b : GlB gl gp w
  opt : w.cell? ⟨6, 0, none⟩ = some (.bool true)
  tab : ∀ q, q < 696 → w.cell? ⟨14, q * 2, none⟩ = some (.int .u64 (p10 q).1) ∧ w.cell? ⟨14, q * 2 + 1, none⟩ = some (.int .u64 (p10 q).2)
  hs : 16 ≤ w.heap.size ∧ g.1 < w.heap.size ∧ gl.1 < w.heap.size ∧ gp.1 < w.heap.size
theorem GlA.keepB {g gl gp : Nat × Nat} {B : Nat} {w w' : World} (h : GlA g gl gp w) (hb : Below B w w') (hB : 16 ≤ B ∧ g.1 < B ∧ gl.1 < B ∧ gp.1 < B) : GlA g gl gp w' := by
  have hc : ∀ k i, k < B → w'.cell? ⟨k, i, none⟩ = w.cell? ⟨k, i, none⟩ := fun k i hk => hb.cell (p := ⟨k, i, none⟩) hk
  obtain ⟨⟨a1, a2, a3⟩, ⟨⟨b1, b2, b3⟩, b4, b5, b6, b7, b8⟩, c1, c2, d⟩ := h
  obtain ⟨e1, e2, e3, e4⟩ := hB
  have hsz := hb.size
  refine ⟨⟨?_, ?_, fun i hi => ?_⟩, ⟨⟨?_, fun k hk => ?_, fun k hk => ?_⟩, ?_, fun i hi => ?_, ?_, ?_, ?_⟩, ?_, fun q hq => ⟨?_, ?_⟩, by omega⟩
  · rw [hc _ _ (by omega)]; exact a1
  · rw [hc _ _ (by omega)]; exact a2
  · rw [hc _ _ (by omega)]; exact a3 i hi
  · rw [hc _ _ (by omega)]; exact b1
  · rw [hc _ _ (by omega)]; exact b2 k hk
  · rw [hc _ _ (by omega)]; exact b3 k hk
  · rw [hc _ _ (by omega)]; exact b4
  · rw [hc _ _ (by omega)]; exact b5 i hi
  · rw [hc _ _ (by omega)]; exact b6
  · rw [hc _ _ (by omega)]; exact b7
  · rw [hc _ _ (by omega)]; exact b8
  · rw [hc _ _ (by omega)]; exact c1
  · rw [hc _ _ (by omega)]; exact (c2 q hq).1
  · rw [hc _ _ (by omega)]; exact (c2 q hq).2
theorem GlA.keep {g gl gp : Nat × Nat} {w w' : World} (h : GlA g gl gp w) (hb : Below w.heap.size w w') : GlA g gl gp w' := h.keepB hb h.hs

def A64Post (neg : Bool) (r : Nat × Nat) (n : Nat) (w : World) (e : Ending) (w' : World) : Prop :=
  e = .returned (.tuple #[.float .f64 (sg neg r.1), .int .i64 n, ev r.2]) ∧ Below w.heap.size w w'
theorem sgn_zero (neg : Bool) : sgn neg = sg neg 0 := by cases neg <;> rfl
theorem or_zero (neg : Bool) : bits BinOp.or IntKind.u64 (sgn neg : Nat) 0 = ((sg neg 0 : Nat) : Int) := by cases neg <;> decide +kernel
theorem or_inf (neg : Bool) : bits BinOp.or IntKind.u64 (sgn neg : Nat) 9218868437227405312 = ((sg neg InfW : Nat) : Int) := by cases neg <;> decide +kernel
theorem ext_all (S : ByteArray) : S.extract 0 S.size = S := by
  apply ByteArray.ext
  simp [ByteArray.data_extract]
theorem setX_good {l : List UInt8} {D : Nat} {dot : Bool} {m : Nat} (h : Parts l D dot m) (h0 : 0 < (setX l m).nd) : (setX l m).Good := by
  have hok := SS.run_ok h m (Nat.le_refl _)
  exact ⟨h0, hok.h8, hok.h0 h0, hok.hg⟩

theorem DFr.below {B b : Nat} {W W' : World} (h : DFr b W W') (hB : B ≤ b) : Below B W W' := ⟨h.2.1.os, h.2.1.tape, h.2.1.output, h.2.1.size, fun k hk => h.1 k (by omega)⟩

set_option maxRecDepth 100000 in
set_option maxHeartbeats 8000000 in
theorem atof64_dec (S : ByteArray) (neg : Bool) (i0 D m : Nat) (g gl gp : Nat × Nat) (dot : Bool) (w : World) (hs : S.size ≤ 3000) (hm0 : 0 < m) (hml : i0 + m ≤ S.size)
    (hn : (neg = true ∧ i0 = 1 ∧ ∃ h : 0 < S.size, S[0] = 45) ∨ (neg = false ∧ i0 = 0))
    (hP : Parts (S.data.toList.drop i0) D dot m) (hE : decm (S.data.toList.drop i0) = (S.data.toList.drop i0).length) (hG : GlA g gl gp w) :
    Calls Tryz.prog 101 #[.string S] w (A64Post neg (a64 (readM (S.data.toList.drop i0) m) (readX (S.data.toList.drop i0) m) (readT (S.data.toList.drop i0) m) (setX (S.data.toList.drop i0) m)) S.size w) := by
  have hlt0 : i0 < S.size := by omega
  have hd0 : isDig S[i0] = true ∨ S[i0] = 46 := by
    obtain ⟨c0, hc0, hcc⟩ := hP.chars 0 hm0
    rw [get_drop, Nat.add_zero, get_at S i0 hlt0] at hc0
    have := Option.some.inj hc0
    rw [this]
    rcases hcc with h | ⟨h, _⟩
    · exact .inl h
    · exact .inr h
  have h124 := special_dec S neg i0 w (by omega) hlt0 hn hd0
  have h125 := readFloat_any S neg i0 D m dot w hs hm0 hml hn hP hE
  have h131 := fun (b : Nat) (W : World) (h : Dec W b 0 (fun _ => 0) 0 false false) => set_any S neg i0 D m b dot false false (fun _ => 0) W h hs hm0 hml hn hP hE
  have hman := (RS.run_ok hP m (Nat.le_refl _)).man_lt
  have hgd := setX_good hP
  unfold RfPost at h125
  have hrm : readM (S.data.toList.drop i0) m = (RS.run (S.data.toList.drop i0) m).man := rfl
  rw [← hrm] at hman
  clear hrm hn hP hE hd0
  generalize hl : S.data.toList.drop i0 = l at *
  generalize hM : readM l m = M at *
  generalize hX : readX l m = E at *
  generalize hT : readT l m = T at *
  generalize hSX : setX l m = s at *
  clear hl hM hX hT hSX l
  obtain ⟨r, hr0⟩ : ∃ r, r = a64 M E T s := ⟨_, rfl⟩
  rw [← hr0]
  have HRR := Lib.hid hr0; clear hr0
  have h134 := call134
  have H124 := Lib.hid h124; clear h124
  have H125 := Lib.hid h125; clear h125
  have H131 := Lib.hid h131; clear h131
  have HGD := Lib.hid hgd; clear hgd
  have c6 := hG.opt
  have HG := Lib.hid hG; clear hG
  go_enter Tryz.func101, Tryz.ntmps101
  go_upto_region 11 with (first | (go_at_call 124; refine H124.out.mono ?_; rintro e w' ⟨rfl, rfl⟩) | (go_at_call 125; refine H125.out.mono ?_; rintro e w' ⟨rfl, rfl⟩))
  go_cut [16] (fun v wx => v = .int .u64 (sgn neg : Nat) ∧ w = wx)
  case first =>
    cases neg
    · go_wp2_with (go_at_call 133; refine (bool2_u64 _ _).mono ?_; rintro e w' ⟨rfl, rfl⟩)
      go_meet
      case rel => exact ⟨rfl, rfl⟩
    · go_wp2_with (go_at_call 133; refine (bool2_u64 _ _).mono ?_; rintro e w' ⟨rfl, rfl⟩)
      go_meet
      case rel => exact ⟨rfl, rfl⟩
  case rest =>
    obtain ⟨rfl, rfl⟩ := hcut
    have hz := or_zero neg
    have hi := or_inf neg
    have hb0 : Below w.heap.size w w := Below.refl _ _
    have HB0 := Lib.hid hb0; clear hb0
    by_cases hM0 : M = 0
    · have hr : r = (0, 0) := by rw [HRR.out]; unfold a64; rw [if_pos hM0]
      have HR := Lib.hid hr
      have hb : ((M : Int) == 0) = true := by rw [hM0]; rfl
      clear hr hM0
      go_wp2_with fail
      rw [HR.out]
      exact bodyPost_ret_by (results_tmp3 rfl _ _ _) rfl ⟨rfl, HB0.out⟩
    · have hb : ((M : Int) == 0) = false := beq_false_of_ne (by omega)
      by_cases hE1 : 310 < E
      · have hr : r = (InfW, 1) := by rw [HRR.out]; unfold a64; rw [if_neg hM0, if_pos hE1]
        have HR := Lib.hid hr
        clear hr hM0
        go_wp2_with fail
        rw [HR.out]
        exact bodyPost_ret_by (results_tmp3 rfl _ _ _) rfl ⟨rfl, HB0.out⟩
      · by_cases hE2 : E < -345
        · have hr : r = (0, 0) := by rw [HRR.out]; unfold a64; rw [if_neg hM0, if_neg hE1, if_pos hE2]
          have HR := Lib.hid hr
          clear hr hM0
          go_wp2_with fail
          rw [HR.out]
          exact bodyPost_ret_by (results_tmp3 rfl _ _ _) rfl ⟨rfl, HB0.out⟩
        · have hq : ∃ q : Nat, q = (E + 348).toNat ∧ 3 ≤ q ∧ q ≤ 658 ∧ E = (q : Int) - 348 := ⟨_, rfl, by omega, by omega, by omega⟩
          obtain ⟨q, hq, q3, q658, hEq⟩ := hq
          have hpf : ∀ (man : Nat) (W : World), 0 < man → man < 18446744073709551616 → GlA g gl gp W → Calls Tryz.prog 136 #[.int .u64 man, .int .i64 E, .int .u64 (sgn neg)] W (PfPost neg (pfQ man E) W) := by
            intro man W h1 h2 hG
            have ht := hG.tab q (by omega)
            have := pf64_any neg man q (p10 q).1 (p10 q).2 W h1 h2 q3 q658 (p10_lt q).1 (p10_lt q).2 ht.1 ht.2 (by have := hG.hs; omega)
            unfold pfQ
            rw [← hq, hEq]
            exact this
          have hpq := pfQ_fine M E (by omega) (by omega) (by omega)
          have HPF := Lib.hid hpf; clear hpf
          clear hq hEq q3 q658
          cases T with
          | false =>
            have hex := exact_any neg M g E w (by omega) (by omega) (by omega) HG.out.f
            have hr : r = match exX M E with | some x => (x, 0) | none => pfQ M E := by rw [HRR.out]; unfold a64; rw [if_neg hM0, if_neg hE1, if_neg hE2]; rfl
            unfold ExPost at hex
            cases hx : exX M E with
            | some x =>
              rw [hx] at hr hex
              have HR := Lib.hid hr
              clear hr
              have HEX := Lib.hid hex; clear hex hx hpq
              go_wp2_with (go_at_call 135; refine HEX.out.mono ?_; rintro e w' ⟨⟨v, rfl, hv⟩, rfl⟩; have hv := hv x rfl; subst hv)
              rw [HR.out]
              exact bodyPost_ret_by (results_tmp3 rfl _ _ _) rfl ⟨rfl, HB0.out⟩
            | none =>
              rw [hx] at hr hex
              have HR := Lib.hid hr
              clear hr
              have HEX := Lib.hid hex; clear hex hx
              have hc := HPF.out M w (by omega) (by omega) HG.out
              unfold PfPost at hc
              have HC := Lib.hid hc; clear hc hM0
              go_wp2_with (first | (go_at_call 135; refine HEX.out.mono ?_; rintro e w' ⟨⟨v, rfl, -⟩, rfl⟩) | (go_at_call 136; refine HC.out.mono ?_; rintro e w' ⟨rfl, hbl⟩))
              rw [HR.out]
              exact bodyPost_ret_by (results_tmp3 rfl _ _ _) rfl ⟨rfl, by assumption⟩
          | true =>
            have hpq2 := pfQ_fine (M + 1) E (by omega) (by omega) (by omega)
            have hr : r = if (Ieee.double.order (pfQ M E).1 (pfQ (M + 1) E).1 == some Ordering.eq) then pfQ M E else ((fbX s).getD infB, if (fbX s).isSome then 0 else 1) := by rw [HRR.out]; unfold a64; rw [if_neg hM0, if_neg hE1, if_neg hE2, if_pos rfl]
            have hsw : ∀ r : Nat × Nat, Fine r → r.1 < SW := by
              intro r h
              rcases h with ⟨-, h⟩ | h
              · unfold Fin64 at h; unfold SW; omega
              · rw [h]; decide
            have hord := ord_sg neg (pfQ M E).1 (pfQ (M + 1) E).1 (hsw _ hpq) (hsw _ hpq2)
            have h1 := HPF.out M w (by omega) (by omega) HG.out
            have h2 := fun W h => HPF.out (M + 1) W (by omega) (by omega) h
            unfold PfPost at h1 h2
            rw [show ((M + 1 : Nat) : Int) = (M : Int) + 1 by omega] at h2
            generalize hB : (Ieee.double.order (pfQ M E).1 (pfQ (M + 1) E).1 == some Ordering.eq) = B at *
            clear hB
            generalize pfQ M E = p1 at *
            generalize pfQ (M + 1) E = p2 at *
            have hord2 : (FloatKind.f64.format.order (sg neg p1.1) (sg neg p2.1) == some Ordering.eq) = B := hord
            clear hord hsw hpq hpq2
            have HR := Lib.hid hr; clear hr
            have H1 := Lib.hid h1; clear h1
            have H2 := Lib.hid h2; clear h2
            have HO := Lib.hid hord2; clear hord2 hM0 HPF
            go_upto_region 25 with (go_at_call 136; refine H1.out.mono ?_; rintro e w' ⟨rfl, hbl⟩)
            rename World => w1
            have hG1 := HG.out.keep hbl
            have H3 := Lib.hid (H2.out w1 hG1); clear H2 H1 c6
            have HB1 := Lib.hid (And.intro hbl hG1); clear hbl hG1
            go_upto_region 26 with (go_at_call 136; refine H3.out.mono ?_; rintro e w' ⟨rfl, hbl⟩)
            rename World => w2
            have hG2 := HB1.out.2.keep hbl
            have hb2 : Below w.heap.size w w2 := HB1.out.1.trans (hbl.mono HB1.out.1.size)
            have HB2 := Lib.hid (And.intro hb2 hG2); clear hb2 hG2 hbl H3
            have hord := HO.out
            cases B with
            | true =>
              have hr := HR.out
              rw [if_pos rfl] at hr
              have HR2 := Lib.hid hr; clear hr
              go_wp2_with fail
              rw [HR2.out]
              exact bodyPost_ret_by (results_tmp3 rfl _ _ _) rfl ⟨rfl, HB2.out.1⟩
            | false =>
              have hr := HR.out
              rw [if_neg (by decide)] at hr
              have HR2 := Lib.hid hr; clear hr
              go_upto_region 29 with fail
              obtain ⟨bb, hbb⟩ : ∃ bb, bb = w2.heap.size := ⟨_, rfl⟩
              obtain ⟨W3, hW3⟩ : ∃ W3, W3 = w2.alloc (Obj.cells Tryz.zeroCells208 208) := ⟨_, rfl⟩
              rw [← hbb, ← hW3]
              have hdn := dec_new w2
              rw [← hbb, ← hW3] at hdn
              have ha : Below w2.heap.size w2 W3 := by rw [hW3]; exact (Below.refl _ _).alloc (Nat.le_refl _) _
              have hG3 := HB2.out.2.keep ha
              have hoff : Off bb gl gp := by
                have := HB2.out.2.hs
                unfold Off
                omega
              have hb3 : Below w.heap.size w W3 := HB2.out.1.trans (ha.mono HB2.out.1.size)
              have hle : w.heap.size ≤ bb := by rw [hbb]; exact HB2.out.1.size
              have h131 := H131.out bb W3 hdn
              have h132 : ∀ W, s.At neg W bb → DFr bb W3 W → Calls Tryz.prog 132 #[.pointer (some ⟨bb, 0, none⟩), .pointer (some ⟨7, 0, none⟩)] W (FbPost bb (fbX s) neg W) :=
                fun W h1 h2 => floatBits_any bb gl gp s neg W h1 HGD.out (hG3.b.fr hoff h2) hoff
              unfold SetPost at h131
              unfold FbPost at h132
              have hsl := ext_all S
              have hfin : ∀ W W', DFr bb W3 W → DFr bb W W' → Below w.heap.size w W' := fun W W' h1 h2 => hb3.trans ((h1.trans h2).below hle)
              generalize fbX s = rr at *
              have HF := Lib.hid hfin
              have H3 := Lib.hid h131
              have H4 := Lib.hid h132
              clear hdn ha hG3 hoff hb3 hle h131 h132 hfin hbb hW3 hord
              go_upto_region 31 with (go_at_call 131; refine H3.out.mono ?_; rintro e w' ⟨rfl, k2, k3⟩)
              rename World => w4
              have H5 := Lib.hid (H4.out w4 k2 k3)
              have K3 := Lib.hid k3
              clear k2 k3 H4 H3
              have hr := HR2.out
              cases rr with
              | none =>
                have HR3 := Lib.hid hr; clear hr
                go_wp2_with (go_at_call 132; refine H5.out.mono ?_; rintro e w' ⟨rfl, k3⟩)
                rw [HR3.out]
                exact bodyPost_ret_by (results_tmp3 rfl _ _ _) rfl ⟨rfl, HF.out _ _ K3.out (by assumption)⟩
              | some x =>
                have HR3 := Lib.hid hr; clear hr
                go_wp2_with (go_at_call 132; refine H5.out.mono ?_; rintro e w' ⟨rfl, k3⟩)
                rw [HR3.out]
                exact bodyPost_ret_by (results_tmp3 rfl _ _ _) rfl ⟨rfl, HF.out _ _ K3.out (by assumption)⟩

end Go.Proofs.YtblpcpkkjbkakaaGreatDoor
/- ParseFloat, from atof64's outcome on. -/
namespace Go.Proofs.YtblpcpkkjbkakaaGreatDoor
open Go Go.RowKit
set_option linter.unusedVariables false
set_option linter.unusedSimpArgs false

/-- An outcome of atof64: a float, how much was read, the error's code. -/
def O101 (Q : Nat → Int → Nat → Prop) (w : World) (e : Ending) (w' : World) : Prop :=
  ∃ f n c, Q f n c ∧ c ≤ 2 ∧ -1000 ≤ n ∧ n ≤ 1000000 ∧ e = .returned (.tuple #[.float .f64 f, .int .i64 n, ev c]) ∧ Below w.heap.size w w'
theorem p70_gen (S : ByteArray) (Q : Nat → Int → Nat → Prop) (w : World) (h : Calls Tryz.prog 101 #[.string S] w (O101 Q w)) : Calls Tryz.prog 70 #[.string S, .int .i64 64] w (O101 Q w) := by
  have H := Lib.hid h; clear h
  go_enter Tryz.func70, Tryz.ntmps70
  go_wp2_with (go_at_call 101; refine H.out.mono ?_; rintro e w' ⟨f, n, c, h1, h2, h3, h4, rfl, h5⟩)
  exact bodyPost_ret_by (results_tmp3 rfl _ _ _) rfl ⟨f, n, c, h1, h2, h3, h4, rfl, h5⟩
/-- An outcome of the inner ParseFloat. -/
def O45 (S : ByteArray) (Q : Nat → Int → Nat → Prop) (w : World) (e : Ending) (w' : World) : Prop :=
  ∃ f n c, Q f n c ∧ c ≤ 2 ∧ e = .returned (.tuple #[.float .f64 (if n = S.size then f else 0), ev (if n = S.size then c else 2)]) ∧ Below w.heap.size w w'
theorem p45_gen (S : ByteArray) (hS : S.size ≤ 1000000) (Q : Nat → Int → Nat → Prop) (w : World) (h : Calls Tryz.prog 101 #[.string S] w (O101 Q w)) : Calls Tryz.prog 45 #[.string S, .int .i64 64] w (O45 S Q w) := by
  have H := Lib.hid (p70_gen S Q w h); clear h
  go_enter Tryz.func45, Tryz.ntmps45
  go_upto_region 2 with (go_at_call 70; refine H.out.mono ?_; rintro e w' ⟨f, n, c, h1, h2, h3, h4, rfl, h5⟩)
  have HH := Lib.hid (And.intro h1 (And.intro h2 h5)); clear h1 h2 h5
  by_cases hn : n = S.size
  · have hb : (n != (S.size : Int)) = false := by rw [bne_eq_false_iff_eq]; exact hn
    have HN := Lib.hid hn; clear hn
    go_wp2_with fail
    go_ret2
    exact ⟨f, n, c, HH.out.1, HH.out.2.1, by rw [if_pos HN.out, if_pos HN.out]; rfl, HH.out.2.2⟩
  · have hb : (n != (S.size : Int)) = true := by rw [bne_iff_ne]; exact hn
    have HN := Lib.hid hn; clear hn
    go_wp2_with fail
    go_ret2
    exact ⟨f, n, c, HH.out.1, HH.out.2.1, by rw [if_neg HN.out, if_neg HN.out]; rfl, HH.out.2.2⟩

/-- The errors' variables; their blocks lie below B. -/
structure GlR (B : Nat) (w : World) : Prop where
  syn : ∃ ea txt, w.cell? ⟨2, 0, none⟩ = some (.iface 215 (.pointer (some ea))) ∧ ea.block < B ∧ w.cell? ea = some (.string txt) ∧ txt.size ≤ 1000
  rng : ∃ ea txt, w.cell? ⟨3, 0, none⟩ = some (.iface 215 (.pointer (some ea))) ∧ ea.block < B ∧ w.cell? ea = some (.string txt) ∧ txt.size ≤ 1000
theorem GlR.keep {B B' : Nat} {w w' : World} (h : GlR B w) (hb : Below B' w w') (h4 : 4 ≤ B') (hB : B ≤ B') : GlR B w' := by
  obtain ⟨⟨e1, t1, a1, a2, a3, a4⟩, ⟨e2, t2, b1, b2, b3, b4⟩⟩ := h
  exact ⟨⟨e1, t1, (hb.cell (p := ⟨2, 0, none⟩) (by show 2 < B'; omega)).trans a1, a2, (hb.cell (p := e1) (by omega)).trans a3, a4⟩,
    ⟨e2, t2, (hb.cell (p := ⟨3, 0, none⟩) (by show 3 < B'; omega)).trans b1, b2, (hb.cell (p := e2) (by omega)).trans b3, b4⟩⟩
def pfName : ByteArray := ⟨#[80, 97, 114, 115, 101, 70, 108, 111, 97, 116]⟩
/-- The error that strconv gives: its block. -/
def ErrVal (v : Value) (S : ByteArray) (w w' : World) : Prop :=
  ∃ N ex, v = .iface 138 (.pointer (some ⟨N, 0, none⟩)) ∧ w.heap.size ≤ N ∧ w'.heap[N]? = some (.cells #[.string pfName, .string S, ex] 168 (0, 0)) ∧ (w.cell? ⟨2, 0, none⟩ = some ex ∨ w.cell? ⟨3, 0, none⟩ = some ex)
def O28 (S : ByteArray) (Q : Nat → Int → Nat → Prop) (w : World) (e : Ending) (w' : World) : Prop :=
  ∃ f n c v, Q f n c ∧ e = .returned (.tuple #[.float .f64 (if n = S.size then f else 0), v]) ∧ ((if n = S.size then c else 2) = 0 → v = .nilIface) ∧ ((if n = S.size then c else 2) ≠ 0 → ErrVal v S w w') ∧ Below w.heap.size w w'
set_option maxHeartbeats 1000000 in
theorem p28_gen (S : ByteArray) (hS : S.size ≤ 1000000) (Q : Nat → Int → Nat → Prop) (B : Nat) (w : World) (hR : GlR B w) (hsz : 4 ≤ w.heap.size) (h : Calls Tryz.prog 101 #[.string S] w (O101 Q w)) : Calls Tryz.prog 28 #[.string S, .int .i64 64] w (O28 S Q w) := by
  have H := Lib.hid (p45_gen S hS Q w h); clear h
  obtain ⟨x2, hx2⟩ : ∃ x, w.cell? ⟨2, 0, none⟩ = some (.iface 215 x) := by obtain ⟨ea, _, h, _⟩ := hR.syn; exact ⟨_, h⟩
  obtain ⟨x3, hx3⟩ : ∃ x, w.cell? ⟨3, 0, none⟩ = some (.iface 215 x) := by obtain ⟨ea, _, h, _⟩ := hR.rng; exact ⟨_, h⟩
  have HR := Lib.hid (And.intro hx2 hx3); clear hx2 hx3 hR
  go_enter Tryz.func28, Tryz.ntmps28
  go_upto_region 2 with (go_at_call 45; refine H.out.mono ?_; rintro e w' ⟨f, n, c, h1, h2, rfl, h5⟩)
  rename World => w1
  have hc2 : w1.cell? ⟨2, 0, none⟩ = some (.iface 215 x2) := (h5.cell (p := ⟨2, 0, none⟩) (by show 2 < w.heap.size; omega)).trans HR.out.1
  have hc3 : w1.cell? ⟨3, 0, none⟩ = some (.iface 215 x3) := (h5.cell (p := ⟨3, 0, none⟩) (by show 3 < w.heap.size; omega)).trans HR.out.2
  obtain ⟨F, hF⟩ : ∃ F, F = (if n = S.size then f else 0) := ⟨_, rfl⟩
  obtain ⟨C, hC⟩ : ∃ C, C = (if n = S.size then c else 2) := ⟨_, rfl⟩
  have hC2 : C ≤ 2 := by rw [hC]; split <;> omega
  rw [← hF, ← hC]
  have HH := Lib.hid (And.intro h1 (And.intro h5 (And.intro hF hC))); clear h1 h2 h5 hF hC
  have hfin : ∀ v w', (C = 0 → v = .nilIface) → (C ≠ 0 → ErrVal v S w w') → Below w.heap.size w w' → O28 S Q w (.returned (.tuple #[.float .f64 F, v])) w' := by
    intro v w' a1 a2 a3
    exact ⟨f, n, c, v, HH.out.1, by rw [← HH.out.2.2.1], by rw [← HH.out.2.2.2]; exact a1, by rw [← HH.out.2.2.2]; exact a2, a3⟩
  have HF := Lib.hid hfin; clear hfin
  have hle := HH.out.2.1.size
  rcases (show C = 0 ∨ C = 1 ∨ C = 2 by omega) with rfl | rfl | rfl
  · have e0 : ev 0 = .nilIface := rfl
    rw [e0]
    clear e0 hc2 hc3 hle
    go_wp2_with fail
    go_ret2
    exact HF.out _ _ (fun _ => rfl) (fun h => absurd rfl h) HH.out.2.1
  · have e0 : ev 1 = .iface 137 (.int .i64 1) := rfl
    rw [e0]
    have HC := Lib.hid (Tryz.strconv_toError_range pfName S 0 64 _ w1 (by omega) hc3 (.inr ⟨_, _, rfl⟩))
    clear e0 hc2 hc3
    go_wp2_with (go_at_call 46; refine HC.out.mono ?_; rintro e w' ⟨N, rfl, k1, k2, k3⟩)
    go_ret2
    exact HF.out _ _ (fun h => absurd h (by decide)) (fun _ => ⟨N, _, rfl, by omega, k2, .inr HR.out.2⟩) (HH.out.2.1.trans (k3.mono hle))
  · have e0 : ev 2 = .iface 137 (.int .i64 2) := rfl
    rw [e0]
    have HC := Lib.hid (Tryz.strconv_toError_syntax pfName S 0 64 _ w1 (by omega) hc2 (.inr ⟨_, _, rfl⟩))
    clear e0 hc2 hc3
    go_wp2_with (go_at_call 46; refine HC.out.mono ?_; rintro e w' ⟨N, rfl, k1, k2, k3⟩)
    go_ret2
    exact HF.out _ _ (fun h => absurd h (by decide)) (fun _ => ⟨N, _, rfl, by omega, k2, .inl HR.out.1⟩) (HH.out.2.1.trans (k3.mono hle))

/-- ParseFloat on a decimal, with a minus or without. -/
def D28 (neg : Bool) (r : Nat × Nat) (S : ByteArray) (w : World) (e : Ending) (w' : World) : Prop :=
  ∃ v, e = .returned (.tuple #[.float .f64 (sg neg r.1), v]) ∧ (r.2 = 0 → v = .nilIface) ∧ (r.2 ≠ 0 → ErrVal v S w w') ∧ Below w.heap.size w w'
theorem p28_dec (S : ByteArray) (neg : Bool) (i0 D m : Nat) (g gl gp : Nat × Nat) (dot : Bool) (w : World) (hs : S.size ≤ 3000) (hm0 : 0 < m) (hml : i0 + m ≤ S.size)
    (hn : (neg = true ∧ i0 = 1 ∧ ∃ h : 0 < S.size, S[0] = 45) ∨ (neg = false ∧ i0 = 0))
    (hP : Parts (S.data.toList.drop i0) D dot m) (hE : decm (S.data.toList.drop i0) = (S.data.toList.drop i0).length) (hG : GlA g gl gp w) (B : Nat) (hR : GlR B w) :
    Calls Tryz.prog 28 #[.string S, .int .i64 64] w (D28 neg (a64 (readM (S.data.toList.drop i0) m) (readX (S.data.toList.drop i0) m) (readT (S.data.toList.drop i0) m) (setX (S.data.toList.drop i0) m)) S w) := by
  have hfine := a64_fine (readM (S.data.toList.drop i0) m) (readX (S.data.toList.drop i0) m) (readT (S.data.toList.drop i0) m) (setX (S.data.toList.drop i0) m)
  have h := atof64_dec S neg i0 D m g gl gp dot w hs hm0 hml hn hP hE hG
  generalize a64 (readM (S.data.toList.drop i0) m) (readX (S.data.toList.drop i0) m) (readT (S.data.toList.drop i0) m) (setX (S.data.toList.drop i0) m) = r at *
  have hr2 : r.2 ≤ 2 := by
    rcases hfine with ⟨h, -⟩ | h
    · omega
    · rw [h]; decide
  refine (p28_gen S (by omega) (fun f n c => f = sg neg r.1 ∧ n = S.size ∧ c = r.2) B w hR (by have := hG.hs; omega) (h.mono ?_)).mono ?_
  · rintro e w' ⟨rfl, hb⟩
    exact ⟨_, _, _, ⟨rfl, rfl, rfl⟩, hr2, by omega, by omega, rfl, hb⟩
  · rintro e w' ⟨f, n, c, v, ⟨rfl, rfl, rfl⟩, rfl, h1, h2, h3⟩
    rw [if_pos rfl] at h1 h2
    exact ⟨v, by rw [if_pos rfl], h1, h2, h3⟩

/-- ParseFloat on what is no number: an error, or a special word. -/
def N28 (S : ByteArray) (w : World) (e : Ending) (w' : World) : Prop :=
  ∃ f v, e = .returned (.tuple #[.float .f64 f, v]) ∧ ((v = .nilIface ∧ specialWord f) ∨ ErrVal v S w w') ∧ Below w.heap.size w w'
theorem atof64_not (s : ByteArray) (w : World) (hs : s.size ≤ 100000) (h0 : 0 < s.size)
    (h : (s[0] = 45 ∧ s.size = 1) ∨ (isDig s[0] = false ∧ s[0] ≠ 46 ∧ s[0] ≠ 95 ∧ s[0] ≠ 43 ∧ s[0] ≠ 45)) : Calls Tryz.prog 101 #[.string s] w (O101 (fun f n c => (c = 0 ∧ specialWord f) ∨ c = 2) w) := by
  have h1 := special_any s w hs h0
  have h2 := readFloat_not s w hs h0 h
  unfold SpPost at h1
  unfold RfNot at h2
  have H1 := Lib.hid h1; have H2 := Lib.hid h2; clear h h1 h2
  go_enter Tryz.func101, Tryz.ntmps101
  go_upto_region 2 with (go_at_call 124; refine H1.out.mono ?_; rintro e w' ⟨⟨f, n, ok, rfl, k1, k2, k3⟩, rfl⟩)
  cases ok with
  | true =>
    have hk := k1 rfl
    have HK := Lib.hid hk; clear hk k1
    go_wp2_with fail
    exact bodyPost_ret_by (results_tmp3 rfl _ _ _) rfl ⟨f, n, 0, .inl ⟨rfl, HK.out⟩, by omega, by omega, by omega, rfl, Below.refl _ _⟩
  | false =>
    clear k1
    go_wp2_with (go_at_call 125; refine H2.out.mono ?_; rintro e w' ⟨⟨a, b, c, d, x, x1, x2, rfl⟩, rfl⟩)
    exact bodyPost_ret_by (results_tmp3 rfl _ _ _) rfl ⟨0, x, 2, .inr rfl, by omega, by omega, by omega, rfl, Below.refl _ _⟩
theorem p28_not (s : ByteArray) (w : World) (hs : s.size ≤ 100000) (h0 : 0 < s.size) (B : Nat) (hR : GlR B w) (hsz : 4 ≤ w.heap.size)
    (h : (s[0] = 45 ∧ s.size = 1) ∨ (isDig s[0] = false ∧ s[0] ≠ 46 ∧ s[0] ≠ 95 ∧ s[0] ≠ 43 ∧ s[0] ≠ 45)) : Calls Tryz.prog 28 #[.string s, .int .i64 64] w (N28 s w) := by
  refine (p28_gen s (by omega) _ B w hR hsz (atof64_not s w hs h0 h)).mono ?_
  rintro e w' ⟨f, n, c, v, hQ, rfl, h1, h2, h3⟩
  by_cases hn : n = s.size
  · rw [if_pos hn] at h1 h2
    refine ⟨f, v, by rw [if_pos hn], ?_, h3⟩
    rcases hQ with ⟨rfl, hf⟩ | rfl
    · exact .inl ⟨h1 rfl, hf⟩
    · exact .inr (h2 (by decide))
  · rw [if_neg hn] at h1 h2
    exact ⟨0, v, by rw [if_neg hn], .inr (h2 (by decide)), h3⟩

end Go.Proofs.YtblpcpkkjbkakaaGreatDoor
/- The text of strconv's error. -/
namespace Go.Proofs.YtblpcpkkjbkakaaGreatDoor
open Go Go.RowKit
set_option linter.unusedVariables false
set_option linter.unusedSimpArgs false

theorem errStr_any (ea : Addr) (txt : ByteArray) (w : World) (hc : w.cell? ea = some (.string txt)) :
    Calls Tryz.prog 224 #[.pointer (some ea)] w fun e w' => e = .returned (.string txt) ∧ w' = w := by
  go_enter Tryz.func224, Tryz.ntmps224
  go_wp2_with fail
  go_ret
  exact ⟨rfl, rfl⟩
theorem meth215 (ea : Addr) (W : World) : (method (Tryz.prog.types.size + 100) 215 (.pointer (some ea)) "Error").run Tryz.prog W = .ok (224, .pointer (some ea)) W := by
  kernel_rfl

theorem numErr_any (N B : Nat) (S ex : _) (w w0 : World) (hN : w.heap[N]? = some (.cells #[.string pfName, .string S, ex] 168 (0, 0))) (hex : w0.cell? ⟨2, 0, none⟩ = some ex ∨ w0.cell? ⟨3, 0, none⟩ = some ex)
    (hR0 : GlR B w0) (hR : ∀ p : Addr, p.block < B → w.cell? p = w0.cell? p) (hB : B ≤ w.heap.size) (hS : S.size ≤ 1000000) (hp : ∀ x ∈ S.data.toList, PlainB x.toNat) :
    Calls Tryz.prog 206 #[.pointer (some ⟨N, 0, none⟩)] w fun e w' => (∃ t, e = .returned (.string t)) ∧ Below w.heap.size w w' := by
  obtain ⟨ea, txt, rfl, h1, h2, h3⟩ : ∃ ea txt, ex = .iface 215 (.pointer (some ea)) ∧ ea.block < B ∧ w0.cell? ea = some (.string txt) ∧ txt.size ≤ 1000 := by
    obtain ⟨⟨e1, t1, a1, a2, a3, a4⟩, ⟨e2, t2, b1, b2, b3, b4⟩⟩ := hR0
    rcases hex with h | h
    · rw [a1] at h; exact ⟨e1, t1, (Option.some.inj h).symm, a2, a3, a4⟩
    · rw [b1] at h; exact ⟨e2, t2, (Option.some.inj h).symm, b2, b3, b4⟩
  have hc : ∀ i v, (#[.string pfName, .string S, .iface 215 (.pointer (some ea))] : Array Value)[i]? = some v → w.cell? ⟨N, 0 + i, none⟩ = some v := by
    intro i v hv
    rw [Nat.zero_add, cell_of_row _ _ i _ 168 (0, 0) hN]; exact hv
  have hea := (hR ea h1).trans h2
  refine (Tryz.NumError_Error N 0 pfName S (quoteP S) txt 215 (.pointer (some ea)) 224 (.pointer (some ea)) w (hc 0 _ rfl) (hc 1 _ rfl) (hc 2 _ rfl) ?_ ?_ (meth215 ea) ?_ ?_).mono ?_
  · rw [quoteP_size]
    have : pfName.size = 10 := rfl
    omega
  · exact fun W hb => quote_plain S W hS hp
  · exact enters_of Tryz.func224 (by kernel_rfl) rfl
  · exact fun W hb => (errStr_any ea txt W ((hb.cell (p := ea) (by omega)).trans hea)).mono fun e w' h => ⟨h.1, h.2 ▸ Below.refl _ _⟩
  · rintro e w' ⟨rfl, hb⟩
    exact ⟨⟨_, rfl⟩, hb⟩

end Go.Proofs.YtblpcpkkjbkakaaGreatDoor
/- The parser's state; its next token; what is wanted of the package-level variables. -/
namespace Go.Proofs.YtblpcpkkjbkakaaGreatDoor
open Go Go.RowKit
set_option linter.unusedVariables false
set_option linter.unusedSimpArgs false

theorem St.old {s : ByteArray} {rb B b : Nat} {F : Nat → Option Value} {q la : Nat} {T : Option Nat} {w w' : World} (h : St s rb B b F q la T w) (hb : Below w.heap.size w w') : St s rb B b F q la T w' := by
  obtain ⟨R, pos, en, off, tb, hI, hk, hT, hq, hF, hrb, hne, p, hr⟩ := h
  exact ⟨R, pos, en, off, tb, hI.old hb, hk, hT, hq, hF, hrb, hne, p, (hb.block _ (by have := (Array.getElem?_eq_some_iff.1 hr).1; exact this)).trans hr⟩
theorem Rdy.old {s : ByteArray} {rb B b : Nat} {F : Nat → Option Value} {p : Nat} {w w' : World} (h : Rdy s rb B b F p w) (hb : Below w.heap.size w w') : Rdy s rb B b F p w' := by
  rcases h with ⟨h1, h2, T, h3⟩ | ⟨h2, T, h3⟩
  · exact .inl ⟨h1, h2, T, h3.old hb⟩
  · exact .inr ⟨h2, T, h3.old hb⟩
/-- The parser stands ready at place p. -/
def PS (s : ByteArray) (rb B b p : Nat) (w : World) : Prop := ∃ F, LOk F ∧ Rdy s rb B b F p w
theorem PS.old {s : ByteArray} {rb B b p : Nat} {w w' : World} (h : PS s rb B b p w) (hb : Below w.heap.size w w') : PS s rb B b p w' := by
  obtain ⟨F, h1, h2⟩ := h
  exact ⟨F, h1, h2.old hb⟩
theorem Fr.ofOld {B b rb : Nat} {w w' : World} (hb : Below w.heap.size w w') (hB : B ≤ w.heap.size) : Fr B b rb w w' :=
  ⟨hb.mono hB, fun k o ho _ _ _ => by rw [hb.block k (Array.getElem?_eq_some_iff.1 ho).1]; exact ho⟩

/-- All package-level variables that reading a number reads; they lie below B. -/
structure GlN (B : Nat) (g gl gp : Nat × Nat) (w : World) : Prop where
  sc : Gl w
  eo : GlE w
  nu : GlA g gl gp w
  er : GlR B w
  hB : 16 ≤ B ∧ g.1 < B ∧ gl.1 < B ∧ gp.1 < B ∧ B ≤ w.heap.size
theorem GlN.keep {B : Nat} {g gl gp : Nat × Nat} {w w' : World} (h : GlN B g gl gp w) (hb : Below B w w') : GlN B g gl gp w' := by
  obtain ⟨h1, ⟨x, h2⟩, h3, h4, h5⟩ := h
  exact ⟨h1.keep hb (by omega), ⟨x, (hb.cell (p := ⟨1, 0, none⟩) (by show 1 < B; omega)).trans h2⟩, h3.keepB hb (by omega), h4.keep hb (by omega) (Nat.le_refl _), by have := hb.size; omega⟩
theorem GlN.keepO {B : Nat} {g gl gp : Nat × Nat} {w w' : World} (h : GlN B g gl gp w) (hb : Below w.heap.size w w') : GlN B g gl gp w' := h.keep (hb.mono h.hB.2.2.2.2)

/-- Tokens that the grammar lets in: no decimal with a 0 ahead of another digit. -/
def NoPad (T : List (UInt8 × List UInt8)) : Prop := ∀ t ∈ T, t.1 = 49 → padd t.2 = false
/-- The parser stands at place p, the tokens T are ahead. -/
structure PT (s : ByteArray) (rb B b p : Nat) (T : List (UInt8 × List UInt8)) (w : World) : Prop where
  ps : PS s rb B b p w
  tk : ∃ j, toks j (s.data.toList.drop p) = some T
  hp : p ≤ s.size
  np : NoPad T
  pl : Plain s ∧ NoBar s
theorem PT.old {s : ByteArray} {rb B b p : Nat} {T : List (UInt8 × List UInt8)} {w w' : World} (h : PT s rb B b p T w) (hb : Below w.heap.size w w') : PT s rb B b p T w' :=
  ⟨h.ps.old hb, h.tk, h.hp, h.np, h.pl⟩
theorem PT.lt {s : ByteArray} {rb B b p : Nat} {T : List (UInt8 × List UInt8)} {w : World} (h : PT s rb B b p T w) : B ≤ b ∧ b < w.heap.size ∧ rb < w.heap.size ∧ B ≤ rb ∧ rb ≠ b := by
  obtain ⟨F, h1, h2⟩ := h.ps
  exact h2.lt

/-- The outcome of the lexer's next. -/
def NxPost (s : ByteArray) (rb B b : Nat) (T : List (UInt8 × List UInt8)) (w : World) (e : Ending) (w' : World) : Prop :=
  ∃ x v, e = .returned (.tuple #[x, v]) ∧ ((T = [] ∧ ∃ y, v = .iface 109 y) ∨
   (∃ t T', T = t :: T' ∧ x = .string ⟨t.2.toArray⟩ ∧ v = .nilIface ∧ ∃ p', PT s rb B b p' T' w')) ∧ Fr B b rb w w'
theorem next_pt (s : ByteArray) (rb B b p : Nat) (g gl gp : Nat × Nat) (T : List (UInt8 × List UInt8)) (w : World) (h : PT s rb B b p T w) (hG : GlN B g gl gp w) : Calls Tryz.prog 42 #[.pointer (some ⟨b, 0, none⟩)] w (NxPost s rb B b T w) := by
  obtain ⟨⟨F, hF, hR⟩, ⟨j, htk⟩, hp, hnp, hpl, hbar⟩ := h
  have hB := hG.hB
  cases T with
  | nil =>
    have he := toks_nil_end htk
    rw [List.length_drop, ← Lib.size_eq] at he
    refine (lexNext_any s rb B b F p s.size s.size true w hR hp hpl hbar hG.sc hG.eo (by omega) hF (by omega) (TokAt.fin rfl)).mono ?_
    rintro e w' ⟨⟨x, v, rfl, h1, h2⟩, h3⟩
    obtain ⟨y, rfl⟩ := h1 rfl
    exact ⟨x, _, rfl, .inl ⟨rfl, y, rfl⟩, h3⟩
  | cons t T =>
    obtain ⟨t0, E, j', ht0, hta, hsg, htk2, hE, hlt, hple⟩ := tok_at s p j t T hp htk (hnp t (List.mem_cons_self ..))
    refine (lexNext_any s rb B b F p t0 E false w hR hp hpl hbar hG.sc hG.eo (by omega) hF ht0 hta).mono ?_
    rintro e w' ⟨⟨x, v, rfl, h1, h2⟩, h3⟩
    obtain ⟨rfl, rfl, F', h4, h5⟩ := h2 rfl
    exact ⟨_, _, rfl, .inr ⟨t, T, rfl, by rw [hsg], rfl, E, ⟨⟨F', h4, h5⟩, ⟨j', htk2⟩, hE, fun t ht => hnp t (List.mem_cons_of_mem _ ht), hpl, hbar⟩⟩, h3⟩

/-- Where a decimal's mantissa ends. -/
def mantL (l : List UInt8) : Nat := if l[digs l]? = some 46 then digs l + 1 + digs (l.drop (digs l + 1)) else digs l
theorem Parts.mant {l : List UInt8} {D : Nat} {dot : Bool} {m : Nat} (h : Parts l D dot m) : m = mantL l := by
  unfold mantL
  rw [h.hD, h.hm]
  by_cases h46 : l[D]? = some 46
  · rw [if_pos h46, if_pos (h.hdot.1 h46)]
  · have hd : dot = false := by
      cases hdd : dot with
      | false => rfl
      | true => exact absurd (h.hdot.2 hdd) h46
    rw [if_neg h46, hd]; rfl
/-- The word of a decimal, and its error. -/
def a64L (l : List UInt8) : Nat × Nat := a64 (readM l (mantL l)) (readX l (mantL l)) (readT l (mantL l)) (setX l (mantL l))
theorem a64L_fine (l : List UInt8) : Fine (a64L l) := a64_fine _ _ _ _

/-- A number's token: it has its parts. -/
theorem num_tok {t : UInt8 × List UInt8} (h : TokOk t) (hp : t.1 = 49 → padd t.2 = false) (h49 : t.1 = 49) : ∃ D dot m, Parts t.2 D dot m ∧ 0 < m ∧ m ≤ t.2.length ∧ decm t.2 = t.2.length ∧ t.2 ≠ [] := by
  rcases h with ⟨h1, -⟩ | ⟨-, h2, h3⟩ | ⟨h1, -⟩
  · rw [h49] at h1; exact absurd h1 (by decide)
  · have hlen : 0 < t.2.length := List.length_pos_iff.2 h2
    obtain ⟨D, dot, m, hP⟩ := num_parts t.2 (by omega) (by rw [h3, List.take_length]; exact hp h49) (fun c hc => by rw [h3] at hc; simp at hc)
    refine ⟨D, dot, m, hP, ?_, ?_, h3, h2⟩
    · have h1 := hP.hm
      have h2 := hP.hpos
      cases dot with
      | true => simp only [if_true] at h1; omega
      | false => simp only [Bool.false_eq_true, if_false] at h1 h2; omega
    · rcases hP.hexp with ⟨h1 | h1, _⟩ | ⟨h1, _⟩
      · have := lt_of_get h1; omega
      · have := lt_of_get h1; omega
      · omega
  · rw [h49] at h1; exact absurd h1 (by decide)
theorem tok_plainB {t : UInt8 × List UInt8} (h : TokOk t) : ∀ x ∈ t.2, PlainB x.toNat := by
  intro x hx
  obtain ⟨i, hi, hxi⟩ := List.getElem_of_mem hx
  have hg : t.2[i]? = some x := by rw [List.getElem?_eq_getElem hi, hxi]
  rcases h with ⟨-, -, h3⟩ | ⟨-, h2, h3⟩ | ⟨h1, h2⟩
  · have := lets_let t.2 i x (by omega) hg
    rw [isLet_iff] at this
    unfold PlainB; omega
  · rcases decm_chars t.2 h3 h2 i x hg with h | h | h | h | h
    · rw [isDig_iff] at h; unfold PlainB; omega
    · subst h; unfold PlainB; decide
    · rw [isLet_iff] at h; unfold PlainB; omega
    · subst h; unfold PlainB; decide
    · subst h; unfold PlainB; decide
  · rw [h2] at hx
    have hx2 : x = t.1 := by simpa using hx
    rw [hx2]
    rw [isSign_iff] at h1
    unfold PlainB; omega

/-- strconv's reading of a token. -/
def PTok (t : UInt8 × List UInt8) (w : World) (e : Ending) (w' : World) : Prop :=
  ∃ f v, e = .returned (.tuple #[.float .f64 f, v]) ∧
    ((v = .nilIface ∧ t.1 = 49 ∧ (a64L t.2).2 = 0 ∧ f = (a64L t.2).1) ∨ (v = .nilIface ∧ specialWord f ∧ t.1 ≠ 49) ∨ (ErrVal v ⟨t.2.toArray⟩ w w' ∧ (t.1 = 49 → (a64L t.2).2 ≠ 0))) ∧ Below w.heap.size w w'
theorem tok_parse (t : UInt8 × List UInt8) (hok : TokOk t) (hp : t.1 = 49 → padd t.2 = false) (hlen : t.2.length ≤ 2000) (B : Nat) (g gl gp : Nat × Nat) (w : World) (hG : GlN B g gl gp w) :
    Calls Tryz.prog 28 #[.string ⟨t.2.toArray⟩, .int .i64 64] w (PTok t w) := by
  have hB := hG.hB
  have hsz : (ByteArray.mk t.2.toArray).size = t.2.length := by simp [ByteArray.size]
  have hdat : (ByteArray.mk t.2.toArray).data.toList = t.2 := by simp
  by_cases h49 : t.1 = 49
  · obtain ⟨D, dot, m, hP, hm0, hml, hdc, hne⟩ := num_tok hok hp h49
    have hdr : (ByteArray.mk t.2.toArray).data.toList.drop 0 = t.2 := by rw [hdat]; rfl
    refine (p28_dec ⟨t.2.toArray⟩ false 0 D m g gl gp dot w (by omega) hm0 (by omega) (.inr ⟨rfl, rfl⟩) (by rw [hdr]; exact hP) (by rw [hdr]; exact hdc) hG.nu B hG.er).mono ?_
    rintro e w' ⟨v, rfl, h1, h2, h3⟩
    rw [hdr, hP.mant] at h1 h2 ⊢
    refine ⟨_, v, rfl, ?_, h3⟩
    by_cases h0 : (a64L t.2).2 = 0
    · exact .inl ⟨h1 h0, h49, h0, rfl⟩
    · exact .inr (.inr ⟨h2 h0, fun _ => h0⟩)
  · have hlen0 : 0 < (ByteArray.mk t.2.toArray).size := by
      rw [hsz]
      rcases hok with ⟨-, h2, -⟩ | ⟨-, h2, -⟩ | ⟨-, h2⟩
      · exact List.length_pos_iff.2 h2
      · exact List.length_pos_iff.2 h2
      · rw [h2]; simp
    have h0 : t.2[0]? = some (ByteArray.mk t.2.toArray)[0] := by rw [← get_at _ 0 hlen0, hdat]
    refine (p28_not ⟨t.2.toArray⟩ w (by omega) hlen0 B hG.er (by omega) ?_).mono ?_
    · obtain ⟨c, hc⟩ : ∃ c, c = (ByteArray.mk t.2.toArray)[0] := ⟨_, rfl⟩
      rw [← hc] at h0 ⊢
      rcases hok with ⟨-, h2, h3⟩ | ⟨h1, -⟩ | ⟨h1, h2⟩
      · have hl := lets_let t.2 0 _ (by omega) h0
        rw [isLet_iff] at hl
        refine .inr ⟨?_, ?_, ?_, ?_, ?_⟩
        · cases hd : isDig c with
          | false => rfl
          | true => rw [isDig_iff] at hd; omega
        all_goals (intro e; rw [byte_eq] at e; simp at e; omega)
      · exact absurd h1 h49
      · rw [h2] at h0
        have h0' : t.1 = c := by simpa using h0
        by_cases h45 : t.1 = 45
        · exact .inl ⟨by rw [← h0']; exact h45, by rw [hsz, h2]; simp⟩
        · rw [isSign_iff] at h1
          rw [byte_eq] at h45
          simp at h45
          refine .inr ⟨?_, ?_, ?_, ?_, ?_⟩
          · rw [← h0']
            cases hd : isDig t.1 with
            | false => rfl
            | true => rw [isDig_iff] at hd; omega
          all_goals (rw [← h0']; intro e; rw [byte_eq] at e; simp at e; omega)
    · rintro e w' ⟨f, v, rfl, h1, h2⟩
      refine ⟨f, v, rfl, ?_, h2⟩
      rcases h1 with ⟨h, h3⟩ | h
      · exact .inr (.inl ⟨h, h3, h49⟩)
      · exact .inr (.inr ⟨h, fun h => absurd h h49⟩)

end Go.Proofs.YtblpcpkkjbkakaaGreatDoor
/- The parser's number, with a minus or without. -/
namespace Go.Proofs.YtblpcpkkjbkakaaGreatDoor
open Go Go.RowKit
set_option linter.unusedVariables false
set_option linter.unusedSimpArgs false

/-- The number at the beginning of the tokens, by its sign; what follows. -/
def numT (neg : Bool) : List (UInt8 × List UInt8) → Option (Nat × List (UInt8 × List UInt8))
  | [] => none
  | t :: T => if t.1 = 49 ∧ (a64L t.2).2 = 0 then some (sg neg (a64L t.2).1, T) else none
def numX : List (UInt8 × List UInt8) → Option (Nat × List (UInt8 × List UInt8))
  | [] => none
  | t :: T => if t.2 = [45] then numT true T else numT false (t :: T)
theorem numX_cons (t : UInt8 × List UInt8) (T : List (UInt8 × List UInt8)) : numX (t :: T) = if t.2 = [45] then numT true T else numT false (t :: T) := rfl
theorem numT_cons (neg : Bool) (t : UInt8 × List UInt8) (T : List (UInt8 × List UInt8)) : numT neg (t :: T) = if t.1 = 49 ∧ (a64L t.2).2 = 0 then some (sg neg (a64L t.2).1, T) else none := rfl
def SgPost (s : ByteArray) (rb B b : Nat) (X : Option (Nat × List (UInt8 × List UInt8))) (w : World) (e : Ending) (w' : World) : Prop :=
  ∃ f v, e = .returned (.tuple #[.float .f64 f, v]) ∧ ((∃ T', X = some (f, T') ∧ v = .nilIface ∧ ∃ p', PT s rb B b p' T' w') ∨ (X = none ∧ ∃ u y, v = .iface u y)) ∧ Fr B b rb w w'

theorem PT.tok {s : ByteArray} {rb B b p : Nat} {t : UInt8 × List UInt8} {T : List (UInt8 × List UInt8)} {w : World} (h : PT s rb B b p T w) (ht : t ∈ T) (hs : s.size ≤ 2000) : TokOk t ∧ t.2.length ≤ 2000 ∧ (t.1 = 49 → padd t.2 = false) := by
  obtain ⟨j, hj⟩ := h.tk
  have h1 := toks_len hj t ht
  rw [List.length_drop, ← Lib.size_eq] at h1
  exact ⟨toks_ok hj t ht, by omega, h.np t ht⟩
theorem str_minus (l : List UInt8) : ((⟨l.toArray⟩ : ByteArray) = ⟨#[45]⟩) ↔ l = [45] := by
  constructor
  · intro h
    have := congrArg (fun s : ByteArray => s.data.toList) h
    simpa using this
  · intro h; rw [h]

theorem meth138 (a : Addr) (W : World) : (method 398 138 (.pointer (some a)) "Error").run Tryz.prog W = .ok (206, .pointer (some a)) W := by
  kernel_rfl

set_option maxRecDepth 100000 in
set_option maxHeartbeats 4000000 in
theorem signed_pt (s : ByteArray) (rb B b p : Nat) (g gl gp : Nat × Nat) (T : List (UInt8 × List UInt8)) (w : World) (hs : s.size ≤ 2000) (h : PT s rb B b p T w) (hG : GlN B g gl gp w) :
    Calls Tryz.prog 27 #[.pointer (some ⟨b, 0, none⟩)] w (SgPost s rb B b (numX T) w) := by
  have HN := Lib.hid (next_pt s rb B b p g gl gp T w h hG)
  have HG := Lib.hid (And.intro hG h)
  clear h hG
  obtain ⟨X, hX⟩ : ∃ X, X = numX T := ⟨_, rfl⟩
  rw [← hX]
  have HX := Lib.hid hX; clear hX
  go_enter Tryz.func27, Tryz.ntmps27
  go_upto_region 3 with (go_at_call 42; refine HN.out.mono ?_; rintro e w1 ⟨x, v, rfl, hk, hfr⟩)
  rcases hk with ⟨rfl, y, rfl⟩ | ⟨t, T', rfl, rfl, rfl, p', hpt⟩
  · go_wp2_with fail
    go_ret2
    exact ⟨0, _, rfl, .inr ⟨HX.out, _, _, rfl⟩, hfr⟩
  · have hG1 := HG.out.1.keep hfr.1
    have hts := HG.out.2.tok (List.mem_cons_self ..) hs
    have HG1 := Lib.hid (And.intro hG1 (And.intro hpt (And.intro hfr hts)))
    clear hG1 hpt hfr hts
    go_upto_if 19 with fail
    go_cut [4, 5, 6] (fun ng tk er wx => ∃ neg t2 T2 p2, ng = .bool neg ∧ tk = .string ⟨(t2 : UInt8 × List UInt8).2.toArray⟩ ∧ RowKit.Hid (X = numT neg (t2 :: T2)) ∧ RowKit.Hid (GlN B g gl gp wx ∧ PT s rb B b p2 T2 wx ∧ Fr B b rb w wx ∧ TokOk t2 ∧ t2.2.length ≤ 2000 ∧ (t2.1 = 49 → padd t2.2 = false)))
    case first =>
      by_cases h45 : t.2 = [45]
      · have hb : (t.2 == [45]) = true := by rw [h45]; rfl
        have hX := HX.out
        have hx2 : X = numT true T' := by rw [hX, numX_cons, if_pos h45]
        have HX2 := Lib.hid hx2; clear hX hx2 h45
        rw [hb]
        have HN2 := Lib.hid (next_pt s rb B b p' g gl gp T' w1 HG1.out.2.1 HG1.out.1)
        go_upto_region 8 with (go_at_call 42; refine HN2.out.mono ?_; rintro e w2 ⟨x, v, rfl, hk, hfr⟩)
        rcases hk with ⟨hT, y, rfl⟩ | ⟨t2, T2, hT, rfl, rfl, p2, hpt⟩
        · have hx3 : X = none := by rw [HX2.out, hT]; rfl
          have HX3 := Lib.hid hx3; clear hx3
          go_wp2_with fail
          go_ret2
          exact ⟨0, _, rfl, .inr ⟨HX3.out, _, _, rfl⟩, HG1.out.2.2.1.trans hfr⟩
        · have hts := HG1.out.2.1.tok (t := t2) (by rw [hT]; exact List.mem_cons_self ..) hs
          have hG2 := HG1.out.1.keep hfr.1
          have hx3 : X = numT true (t2 :: T2) := by rw [HX2.out, hT]
          have HZ := Lib.hid (And.intro hx3 (And.intro hG2 (And.intro hpt (And.intro (HG1.out.2.2.1.trans hfr) hts))))
          clear hts hG2 hx3 hpt hfr hT
          go_wp2_with fail
          go_meet
          case rel => exact ⟨true, t2, T2, p2, rfl, rfl, Lib.hid HZ.out.1, Lib.hid HZ.out.2⟩
      · have hb : (t.2 == [45]) = false := by rw [beq_eq_false_iff_ne]; exact h45
        have hX := HX.out
        have hx2 : X = numT false (t :: T') := by rw [hX, numX_cons, if_neg h45]
        have HX2 := Lib.hid hx2; clear hX hx2 h45
        rw [hb]
        go_wp2_with fail
        go_meet
        case rel => exact ⟨false, t, T', p', rfl, rfl, HX2, Lib.hid HG1.out⟩
    case rest =>
      obtain ⟨neg, t2, T2, p2, rfl, rfl, hX, hZ⟩ := hcut
      clear HX HG1 HN HG
      have HP := Lib.hid (tok_parse t2 hZ.out.2.2.2.1 hZ.out.2.2.2.2.2 hZ.out.2.2.2.2.1 B g gl gp wc hZ.out.1)
      go_upto_region 11 with (go_at_call 28; refine HP.out.mono ?_; rintro e w3 ⟨f, v, rfl, hk, hb⟩)
      have hfr3 : Fr B b rb w w3 := hZ.out.2.2.1.trans (Fr.ofOld hb hZ.out.1.hB.2.2.2.2)
      have hpt3 := hZ.out.2.1.old hb
      have HF := Lib.hid (And.intro hfr3 (And.intro hpt3 hb)); clear hfr3 hpt3 hb
      rcases hk with ⟨rfl, h49, h0, rfl⟩ | ⟨rfl, hsp, h49⟩ | ⟨hev, h49⟩
      · have hfin : (a64L t2.2).1 < 2047 * 2 ^ 52 := by
          rcases a64L_fine t2.2 with ⟨_, h⟩ | h
          · exact h
          · rw [h] at h0; exact absurd h0 (by decide)
        have hx3 : X = some (sg neg (a64L t2.2).1, T2) := by rw [hX.out, numT_cons, if_pos ⟨h49, h0⟩]
        have hni := fin_not _ hfin
        have hmm := mul_minus _ hfin
        generalize (a64L t2.2).1 = F at *
        have hF64 : F < 18446744073709551616 := by omega
        have c43 := fun W => isNaN_any F W
        have c44 := fun W => isInf_any F W hF64
        rw [hni.1] at c43
        rw [hni.2] at c44
        have C43 := Lib.hid c43; have C44 := Lib.hid c44; have HX3 := Lib.hid hx3; have HM := Lib.hid hmm
        clear c43 c44 hx3 hni hmm hX h49 h0 hfin hZ HP
        cases neg with
        | false =>
          go_wp2_with (first | (go_at_call 43; refine (C43.out _).mono ?_; rintro e w' ⟨rfl, rfl⟩) | (go_at_call 44; refine (C44.out _).mono ?_; rintro e w' ⟨rfl, rfl⟩))
          go_ret2
          exact ⟨F, _, rfl, .inl ⟨T2, HX3.out, rfl, p2, HF.out.2.1⟩, HF.out.1⟩
        | true =>
          have hmul : ∀ W, (binOp .mul 25 (.float .f64 F) (.float .f64 13830554455654793216)).run Tryz.prog W = .ok (.float .f64 (sg true F)) W := fun W => run_float_arith W .mul 25 .f64 _ _ _ HM.out
          go_wp2_with (first | (go_at_call 43; refine (C43.out _).mono ?_; rintro e w' ⟨rfl, rfl⟩) | (go_at_call 44; refine (C44.out _).mono ?_; rintro e w' ⟨rfl, rfl⟩))
          go_ret2
          exact ⟨_, _, rfl, .inl ⟨T2, HX3.out, rfl, p2, HF.out.2.1⟩, HF.out.1⟩
      · have hx3 : X = none := by rw [hX.out, numT_cons, if_neg (fun h => h49 h.1)]
        have hr := special_refused f hsp
        have hf64 : f < 18446744073709551616 := by rcases hsp with h | h | h <;> rw [h] <;> decide
        have c43 := fun W => isNaN_any f W
        have c44 := fun W => isInf_any f W hf64
        generalize hn : nanw f = N at *
        generalize hi : infw f = I at *
        have C43 := Lib.hid c43; have C44 := Lib.hid c44; have HX3 := Lib.hid hx3
        clear c43 c44 hx3 hn hi hX hsp h49 hZ HP
        cases N with
        | true =>
          go_wp2_with (first | (go_at_call 43; refine (C43.out _).mono ?_; rintro e w' ⟨rfl, rfl⟩) | (go_at_call 44; refine (C44.out _).mono ?_; rintro e w' ⟨rfl, rfl⟩))
          go_ret2
          exact ⟨0, _, rfl, .inr ⟨HX3.out, _, _, rfl⟩, HF.out.1⟩
        | false =>
          have hI : I = true := by simpa using hr
          subst hI
          go_wp2_with (first | (go_at_call 43; refine (C43.out _).mono ?_; rintro e w' ⟨rfl, rfl⟩) | (go_at_call 44; refine (C44.out _).mono ?_; rintro e w' ⟨rfl, rfl⟩))
          go_ret2
          exact ⟨0, _, rfl, .inr ⟨HX3.out, _, _, rfl⟩, HF.out.1⟩
      · have hx3 : X = none := by rw [hX.out, numT_cons, if_neg (fun h => h49 h.1 h.2)]
        have HX3 := Lib.hid hx3
        obtain ⟨N, ex, rfl, hN, hcells, hex⟩ := hev
        have hz := hZ.out
        have hsz : (ByteArray.mk t2.2.toArray).size = t2.2.length := by simp [ByteArray.size]
        have hE := numErr_any N B ⟨t2.2.toArray⟩ ex w3 wc hcells hex hz.1.er (fun p hp => HF.out.2.2.cell (by have := hz.1.hB; omega)) (by have := HF.out.2.2.size; have := hz.1.hB; omega) (by have := hz.2.2.2.2.1; omega) (by simpa using tok_plainB hz.2.2.2.1)
        have HE := Lib.hid hE
        have hB := hz.1.hB
        have hle := HF.out.2.2.size
        clear hE hz hsz hx3 hX h49 hcells hex hN hZ HP
        have hm := meth138
        go_wp2_with (go_at_call 206; refine HE.out.mono ?_; rintro e w4 ⟨⟨tx, rfl⟩, hb4⟩)
        go_ret2
        exact ⟨0, _, rfl, .inr ⟨HX3.out, _, _, rfl⟩, HF.out.1.trans (Fr.ofOld hb4 (by omega))⟩

end Go.Proofs.YtblpcpkkjbkakaaGreatDoor
/- ReadNumber through the thin package; the law's own reading of a number. -/
namespace Go.Proofs.YtblpcpkkjbkakaaGreatDoor
open Go Go.RowKit
set_option linter.unusedVariables false
set_option linter.unusedSimpArgs false

theorem GlR.up {B B' : Nat} {w : World} (h : GlR B w) (hB : B ≤ B') : GlR B' w := by
  obtain ⟨⟨e1, t1, a1, a2, a3, a4⟩, ⟨e2, t2, b1, b2, b3, b4⟩⟩ := h
  exact ⟨⟨e1, t1, a1, by omega, a3, a4⟩, ⟨e2, t2, b1, by omega, b3, b4⟩⟩
theorem GlN.up {B B' : Nat} {g gl gp : Nat × Nat} {w : World} (h : GlN B g gl gp w) (hB : B ≤ B') (hB' : B' ≤ w.heap.size) : GlN B' g gl gp w :=
  ⟨h.sc, h.eo, h.nu, h.er.up hB, by have := h.hB; omega⟩
theorem lex_lok (rb : Nat) : LOk (lexR rb) where
  fok := lex_fok rb
  c48 := by unfold lexR; rw [if_neg (by omega)]; exact z48
  c39 := by simp [lexR, initR, upd]

def DnPost (X : Option (Nat × List (UInt8 × List UInt8))) (w : World) (e : Ending) (w' : World) : Prop :=
  ∃ f v, e = .returned (.tuple #[.float .f64 f, v]) ∧ ((∃ T', X = some (f, T') ∧ v = .nilIface) ∨ (X = none ∧ ∃ u y, v = .iface u y)) ∧ Below w.heap.size w w'
/-- newParser on a text with tokens. -/
def NpPost (s : ByteArray) (T : List (UInt8 × List UInt8)) (w : World) (e : Ending) (w' : World) : Prop :=
  e = .returned (.pointer (some ⟨w.heap.size + 3, 0, none⟩)) ∧ PT s (w.heap.size + 2) w.heap.size (w.heap.size + 3) 0 T w' ∧ Below w.heap.size w w'
theorem parser_pt (s : ByteArray) (T : List (UInt8 × List UInt8)) (w : World) (hs : s.size ≤ 2000) (ht : toks false s.data.toList = some T) (hp : NoPad T) : Calls Tryz.prog 26 #[.string s] w (NpPost s T w) := by
  refine (newParser_any s w hs).mono ?_
  rintro e w' ⟨rfl, h1, h2⟩
  exact ⟨rfl, ⟨⟨_, lex_lok _, h1⟩, ⟨false, ht⟩, Nat.zero_le _, hp, toks_plain ht⟩, h2⟩
theorem doorNumber_any (s : ByteArray) (T : List (UInt8 × List UInt8)) (g gl gp : Nat × Nat) (w : World) (hs : s.size ≤ 2000) (ht : toks false s.data.toList = some T) (hp : NoPad T) (B0 : Nat) (hG : GlN B0 g gl gp w) :
    Calls Tryz.prog 13 #[.string s] w (DnPost (numX T) w) := by
  have H1 := Lib.hid (parser_pt s T w hs ht hp)
  have hG1 := hG.up hG.hB.2.2.2.2 (Nat.le_refl _)
  have HG := Lib.hid hG1
  clear hG hG1 ht hp
  obtain ⟨n, hn⟩ : ∃ n, n = w.heap.size := ⟨_, rfl⟩
  unfold NpPost at H1
  rw [← hn] at H1 HG
  generalize hX : numX T = X
  have HX := Lib.hid hX
  have HN := Lib.hid hn
  clear hX hn
  go_enter Tryz.func13, Tryz.ntmps13
  go_upto_region 1 with fail
  go_step
  go_step
  go_wp2_with (first | (go_at_call 26; refine H1.out.mono ?_; rintro e w1 ⟨rfl, hpt, hb⟩; have H2 := Lib.hid (signed_pt s (n + 2) n (n + 3) 0 g gl gp T w1 hs hpt (HG.out.keep hb)); rw [HX.out] at H2) | (go_at_call 27; refine H2.out.mono ?_; rintro e w2 ⟨f, v, rfl, hk, hfr⟩))
  go_ret2
  refine ⟨f, v, rfl, ?_, ?_⟩
  · rcases hk with ⟨T', h1, h2, -⟩ | h
    · exact .inl ⟨T', h1, h2⟩
    · exact .inr h
  · have := hb.trans hfr.1
    rw [HN.out] at this
    exact this

def RnPost (X : Option (Nat × List (UInt8 × List UInt8))) (w : World) (e : Ending) (w' : World) : Prop :=
  ∃ f b, e = .returned (.tuple #[.float .f64 f, .bool b]) ∧ ((∃ T', X = some (f, T') ∧ b = true) ∨ (X = none ∧ b = false)) ∧ Below w.heap.size w w'
theorem implRead_any (s : ByteArray) (T : List (UInt8 × List UInt8)) (g gl gp : Nat × Nat) (w : World) (hs : s.size ≤ 2000) (ht : toks false s.data.toList = some T) (hp : NoPad T) (B0 : Nat) (hG : GlN B0 g gl gp w) :
    Calls Tryz.prog 6 #[.string s] w (RnPost (numX T) w) := by
  have H := Lib.hid (doorNumber_any s T g gl gp w hs ht hp B0 hG)
  clear hG ht hp
  generalize numX T = X at *
  go_enter Tryz.func6, Tryz.ntmps6
  go_upto_region 2 with (go_at_call 13; refine H.out.mono ?_; rintro e w1 ⟨f, v, rfl, hk, hb⟩)
  rcases hk with ⟨T', hX, rfl⟩ | ⟨hX, u, y, rfl⟩
  · have HX := Lib.hid (And.intro hX hb); clear hX hb
    go_quiet (fail)
    go_wp2_with fail
    go_ret2
    exact ⟨f, true, rfl, .inl ⟨T', HX.out.1, rfl⟩, below_drewN HX.out.2 _⟩
  · have HX := Lib.hid (And.intro hX hb); clear hX hb
    go_quiet (fail)
    go_wp2_with fail
    go_ret2
    exact ⟨f, false, rfl, .inr ⟨HX.out.1, rfl⟩, below_drewN HX.out.2 _⟩

/-- The reference's reading of a decimal. -/
def SrPost (neg : Bool) (r : Nat × Nat) (w : World) (e : Ending) (w' : World) : Prop :=
  ∃ b : Bool, e = .returned (.tuple #[.float .f64 (sg neg r.1), .bool b]) ∧ (b = true ↔ r.2 = 0) ∧ Below w.heap.size w w'
theorem specRead_any (S : ByteArray) (neg : Bool) (r : Nat × Nat) (w : World) (h : Calls Tryz.prog 28 #[.string S, .int .i64 64] w (D28 neg r S w)) : Calls Tryz.prog 14 #[.string S] w (SrPost neg r w) := by
  have H := Lib.hid h; clear h
  go_enter Tryz.func14, Tryz.ntmps14
  go_upto_region 2 with (go_at_call 28; refine H.out.mono ?_; rintro e w1 ⟨v, rfl, h1, h2, hb⟩)
  by_cases h0 : r.2 = 0
  · have hv := h1 h0
    subst hv
    have HH := Lib.hid (And.intro h0 hb); clear h0 hb h1 h2
    go_quiet (fail)
    go_wp2_with fail
    go_ret2
    exact ⟨true, rfl, ⟨fun _ => HH.out.1, fun _ => rfl⟩, below_drewN HH.out.2 _⟩
  · obtain ⟨N, ex, rfl, -⟩ := h2 h0
    have HH := Lib.hid (And.intro h0 hb); clear h0 hb h1 h2
    go_quiet (fail)
    go_wp2_with fail
    go_ret2
    exact ⟨false, rfl, ⟨fun h => absurd h (by decide), fun h => absurd h HH.out.1⟩, below_drewN HH.out.2 _⟩
/-- A decimal's token behind a sign. -/
theorem spec_tok (t : UInt8 × List UInt8) (neg : Bool) (hok : TokOk t) (hp : t.1 = 49 → padd t.2 = false) (h49 : t.1 = 49) (hlen : t.2.length ≤ 2000) (B : Nat) (g gl gp : Nat × Nat) (w : World) (hG : GlN B g gl gp w) :
    Calls Tryz.prog 14 #[.string ⟨((if neg then [45] else []) ++ t.2).toArray⟩] w (SrPost neg (a64L t.2) w) := by
  obtain ⟨D, dot, m, hP, hm0, hml, hdc, hne⟩ := num_tok hok hp h49
  refine specRead_any _ neg _ w ?_
  cases neg with
  | false =>
    simp only [Bool.false_eq_true, if_false, List.nil_append]
    have hsz : (ByteArray.mk t.2.toArray).size = t.2.length := by simp [ByteArray.size]
    have hdr : (ByteArray.mk t.2.toArray).data.toList.drop 0 = t.2 := by simp
    have := p28_dec ⟨t.2.toArray⟩ false 0 D m g gl gp dot w (by omega) hm0 (by omega) (.inr ⟨rfl, rfl⟩) (by rw [hdr]; exact hP) (by rw [hdr]; exact hdc) hG.nu B hG.er
    rw [hdr, hP.mant] at this
    exact this
  | true =>
    simp only [if_true]
    have hsz : (ByteArray.mk ([45] ++ t.2).toArray).size = t.2.length + 1 := by simp [ByteArray.size]
    have hdr : (ByteArray.mk ([45] ++ t.2).toArray).data.toList.drop 1 = t.2 := by simp
    have := p28_dec ⟨([45] ++ t.2).toArray⟩ true 1 D m g gl gp dot w (by omega) hm0 (by omega) (.inl ⟨rfl, rfl, by omega, by rfl⟩) (by rw [hdr]; exact hP) (by rw [hdr]; exact hdc) hG.nu B hG.er
    rw [hdr, hP.mant] at this
    exact this

end Go.Proofs.YtblpcpkkjbkakaaGreatDoor
