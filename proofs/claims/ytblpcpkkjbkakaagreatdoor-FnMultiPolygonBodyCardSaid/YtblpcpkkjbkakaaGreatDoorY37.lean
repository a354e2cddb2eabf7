/- Lemmas towards the seat's laws: 3 texts joined. -/
import Derived.Test.YtblpcpkkjbkakaaGreatDoorY36
/- The law's reading of a number off a list of tokens. -/
namespace Go.Proofs.YtblpcpkkjbkakaaGreatDoor
open Go Go.RowKit
set_option linter.unusedVariables false
set_option linter.unusedSimpArgs false

theorem lt_of_get' {α : Type} {l : List α} {n : Nat} {c : α} (h : l[n]? = some c) : n < l.length := (List.getElem?_eq_some_iff.1 h).1
/-- A slice of texts: the tokens T. -/
def SL (w : World) (v : Value) (T : List (UInt8 × List UInt8)) : Prop :=
  ∃ a c, v = .slice a T.length c ∧ T.length ≤ c ∧ c ≤ 9223372036854775807 ∧ (0 < T.length → ∃ q o, a = some ⟨q, o, none⟩ ∧ q < w.heap.size ∧ ∀ i t, T[i]? = some t → w.cell? ⟨q, o + i, none⟩ = some (.string ⟨t.2.toArray⟩))
theorem SL.keep {w w' : World} {v : Value} {T : List (UInt8 × List UInt8)} (h : SL w v T) (hb : Below w.heap.size w w') : SL w' v T := by
  obtain ⟨a, c, h1, h2, h3, h4⟩ := h
  refine ⟨a, c, h1, h2, h3, fun h0 => ?_⟩
  obtain ⟨q, o, h5, h6, h7⟩ := h4 h0
  exact ⟨q, o, h5, by have := hb.size; omega, fun i t ht => (hb.cell (p := ⟨q, o + i, none⟩) h6).trans (h7 i t ht)⟩
theorem SL.of_row {w : World} {B : Nat} {v : Value} {T : List (UInt8 × List UInt8)} (h : w.ownsRow B 9 1 v T.length (scells T)) (hT : T.length ≤ 100000) : SL w v T := by
  rcases h.2 with ⟨rfl, h0⟩ | ⟨q, cap, cur, rfl, hb, hh, hn, hcap, hcs, htk⟩
  · exact ⟨none, 0, by rw [h0], by omega, by omega, fun h => by omega⟩
  · refine ⟨_, cap, rfl, hn, by unfold maxLen at hcap; omega, fun _ => ⟨q, 0, rfl, (Array.getElem?_eq_some_iff.1 hh).1, fun i t ht => ?_⟩⟩
    have hil := lt_of_get' ht
    rw [Nat.zero_add, cell_of_row w q i cur 9 (0, 0) hh, ← Array.getElem?_toList]
    have h1 : (cur.toList.take (T.length * 1))[i]? = some (.string ⟨t.2.toArray⟩) := by
      rw [htk]; unfold scells; rw [List.getElem?_map, ht]; rfl
    rw [List.getElem?_take_of_lt (by omega)] at h1
    exact h1

def PnPost (X : Option (Nat × List (UInt8 × List UInt8))) (w : World) (e : Ending) (w' : World) : Prop :=
  ∃ f sv b, e = .returned (.tuple #[.float .f64 f, sv, .bool b]) ∧ ((∃ T', X = some (f, T') ∧ b = true ∧ SL w' sv T') ∨ (X = none ∧ b = false)) ∧ Below w.heap.size w w'
def TksOk (T : List (UInt8 × List UInt8)) : Prop := ∀ t ∈ T, TokOk t ∧ t.2.length ≤ 2000 ∧ (t.1 = 49 → padd t.2 = false)

set_option maxRecDepth 100000 in
set_option maxHeartbeats 4000000 in
theorem pNumber_any (v : Value) (T : List (UInt8 × List UInt8)) (B : Nat) (g gl gp : Nat × Nat) (w : World) (hS : SL w v T) (hok : TksOk T) (hG : GlN B g gl gp w) : Calls Tryz.prog 7 #[v] w (PnPost (numX T) w) := by
  have hS0 := hS
  obtain ⟨a, c, rfl, h1, h2, h3⟩ := hS
  generalize hX : numX T = X
  have HX := Lib.hid (And.intro hX (And.intro hS0 (And.intro hok hG)))
  clear hX hok hG hS0
  go_enter Tryz.func7, Tryz.ntmps7
  go_upto_region 2 with fail
  cases T with
  | nil =>
    go_wp2_with fail
    exact bodyPost_ret_by (results_tmp3 rfl _ _ _) rfl ⟨0, _, false, rfl, .inr ⟨HX.out.1.symm, rfl⟩, Below.refl _ _⟩
  | cons t T =>
    obtain ⟨q, o, rfl, hq, hc⟩ := h3 (by simp)
    have c0 := hc 0 t rfl
    rw [Nat.add_zero] at c0
    go_upto_if 14 with fail
    go_cut [0, 5] (fun l m wx => ∃ neg T2 Mn, m = .string Mn ∧ RowKit.Hid (SL wx l T2 ∧ TksOk T2 ∧ GlN B g gl gp wx ∧ Below w.heap.size w wx ∧ X = numT neg T2 ∧ Mn = ⟨(if neg then [45] else [] : List UInt8).toArray⟩))
    case first =>
      by_cases h45 : t.2 = [45]
      · have hb : (t.2 == [45]) = true := by rw [h45]; rfl
        have hx2 : X = numT true T := by rw [← HX.out.1, numX_cons, if_pos h45]
        have HX2 := Lib.hid hx2; clear hx2 h45
        rw [hb]
        clear h3
        have HC := Lib.hid hc; clear hc
        go_wp2_with fail
        go_quiet (fail)
        have h1' : T.length + 1 ≤ c := by simpa using h1
        by_cases hc1 : c = 1
        · subst hc1
          go_wp2_with fail
          go_meet
          case rel =>
            have hx := HX.out
            exact ⟨true, T, _, rfl, Lib.hid ⟨⟨_, 0, rfl, by omega, by omega, fun h0 => by omega⟩, fun t' ht' => hx.2.2.1 t' (List.mem_cons_of_mem _ ht'), hx.2.2.2.keepO (below_drewN (Below.refl _ _) _), below_drewN (Below.refl _ _) _, HX2.out, rfl⟩⟩
        · go_wp2_with fail
          go_meet
          case rel =>
            have hx := HX.out
            refine ⟨true, T, _, rfl, Lib.hid ⟨⟨_, c - 1, rfl, by omega, by omega, fun h0 => ?_⟩, fun t' ht' => hx.2.2.1 t' (List.mem_cons_of_mem _ ht'), hx.2.2.2.keepO (below_drewN (Below.refl _ _) _), below_drewN (Below.refl _ _) _, HX2.out, rfl⟩⟩
            refine ⟨q, o + 1, rfl, hq, fun i t' ht' => ?_⟩
            have := HC.out (i + 1) t' (by simpa using ht')
            rw [show o + (i + 1) = o + 1 + i by omega] at this
            exact this
      · have hb : (t.2 == [45]) = false := by rw [beq_eq_false_iff_ne]; exact h45
        have hx2 : X = numT false (t :: T) := by rw [← HX.out.1, numX_cons, if_neg h45]
        have HX2 := Lib.hid hx2; clear hx2 h45
        rw [hb]
        clear h3 hc
        go_wp2_with fail
        go_meet
        case rel => exact ⟨false, t :: T, _, rfl, Lib.hid ⟨HX.out.2.1, HX.out.2.2.1, HX.out.2.2.2, Below.refl _ _, HX2.out, rfl⟩⟩
    case rest =>
      obtain ⟨neg, T2, Mn, rfl, hZ⟩ := hcut
      clear HX h1 h3 hc c0 h2 hq
      obtain ⟨⟨a2, c2, rfl, h1, h2, h3⟩, -⟩ := hZ.out
      cases T2 with
      | nil =>
        have hx : X = none := by rw [hZ.out.2.2.2.2.1]; rfl
        have HX := Lib.hid hx; clear hx h3
        go_wp2_with fail
        exact bodyPost_ret_by (results_tmp3 rfl _ _ _) rfl ⟨0, _, false, rfl, .inr ⟨HX.out, rfl⟩, hZ.out.2.2.2.1⟩
      | cons t2 T3 =>
        obtain ⟨q2, o2, rfl, hq2, hc2⟩ := h3 (by simp)
        have c0 := hc2 0 t2 rfl
        rw [Nat.add_zero] at c0
        obtain ⟨S2, hS2⟩ : ∃ S2, S2 = ByteArray.mk t2.2.toArray := ⟨_, rfl⟩
        rw [← hS2] at c0
        have htk := hZ.out.2.1 t2 (List.mem_cons_self ..)
        have hne : t2.2 ≠ [] := by
          rcases htk.1 with ⟨-, h, -⟩ | ⟨-, h, -⟩ | ⟨-, h⟩
          · exact h
          · exact h
          · rw [h]; simp
        have hS20 : 0 < S2.size := by rw [hS2]; have := List.length_pos_iff.2 hne; simpa [ByteArray.size] using this
        have hg0 : t2.2[0]? = some S2[0] := by
          rw [← get_at S2 0 hS20, hS2]
        have hkind : (t2.1 = 49 ∧ (isDig S2[0] = true ∨ S2[0] = 46)) ∨ (t2.1 ≠ 49 ∧ isDig S2[0] = false ∧ S2[0] ≠ 46) := by
          rcases htk.1 with ⟨h97, -, hl⟩ | ⟨h49, -, hd⟩ | ⟨hs, he⟩
          · have := lets_let t2.2 0 _ (by have := List.length_pos_iff.2 hne; omega) hg0
            rw [isLet_iff] at this
            refine .inr ⟨by rw [h97]; decide, ?_, fun e => by rw [e] at this; revert this; decide⟩
            cases hx : isDig S2[0] with
            | false => rfl
            | true => rw [isDig_iff] at hx; omega
          · obtain ⟨D, dot, m, hP, hm0, -⟩ := num_tok htk.1 htk.2.2 h49
            obtain ⟨c, hc, hcc⟩ := hP.chars 0 hm0
            rw [hg0] at hc
            have := Option.some.inj hc
            rw [← this] at hcc
            rcases hcc with h | ⟨h, -⟩
            · exact .inl ⟨h49, .inl h⟩
            · exact .inl ⟨h49, .inr h⟩
          · rw [he] at hg0
            have h0 : t2.1 = S2[0] := by simpa using hg0
            rw [h0] at hs
            rw [h0]
            rw [isSign_iff] at hs
            refine .inr ⟨fun e => by rw [e] at hs; revert hs; decide, ?_, fun e => by rw [e] at hs; revert hs; decide⟩
            cases hx : isDig S2[0] with
            | false => rfl
            | true => rw [isDig_iff] at hx; omega
        have HZ2 := Lib.hid (And.intro hS2 (And.intro htk hc2)); clear hS2 htk hne hg0 hc2 h3
        rcases hkind with ⟨h49, hnum⟩ | ⟨h49, hnd, h46⟩
        · have hcat : Mn ++ S2 = ⟨((if neg then [45] else []) ++ t2.2).toArray⟩ := by
            rw [hZ.out.2.2.2.2.2, HZ2.out.1]
            cases neg <;> rfl
          have hcl := fun W (h : Below wc.heap.size wc W) => spec_tok t2 neg HZ2.out.2.1.1 HZ2.out.2.1.2.2 h49 HZ2.out.2.1.2.1 B g gl gp W (hZ.out.2.2.1.keepO h)
          rw [← hcat] at hcl
          have HC := Lib.hid (And.intro hcl h49); clear hcl hcat h49
          have hf : ((48 : Int) ≤ (S2[0].toNat : Int) ∧ (S2[0].toNat : Int) ≤ 57) ∨ ((S2[0].toNat : Int) = 46) := by
            rcases hnum with h | h
            · exact .inl ((isDig_iff _).1 h)
            · exact .inr (by rw [h]; rfl)
          clear hnum
          have hmn : Mn.size ≤ 1 := by rw [hZ.out.2.2.2.2.2]; cases neg <;> decide
          have hsn : S2.size ≤ 2000 := by rw [HZ2.out.1]; have := HZ2.out.2.1.2.1; simpa [ByteArray.size] using this
          have hcl0 : ¬ (9223372036854775807 : Int) < (Mn.size : Int) + (S2.size : Int) := by omega
          have hcl1 : ¬ 9223372036854775807 < Mn.size + S2.size := by omega
          have h1' : T3.length + 1 ≤ c2 := by simpa using h1
          have hfin : ∀ (b : Bool) (W W' : World) (sv : Value), (b = true ↔ (a64L t2.2).2 = 0) → Below wc.heap.size wc W' → (b = true → SL W' sv T3) → PnPost X w (.returned (.tuple #[.float .f64 (sg neg (a64L t2.2).1), sv, .bool b])) W' := by
            intro b W W' sv hb hbl hsl
            refine ⟨_, sv, b, rfl, ?_, hZ.out.2.2.2.1.trans (hbl.mono hZ.out.2.2.2.1.size)⟩
            cases b with
            | true => exact .inl ⟨T3, by rw [hZ.out.2.2.2.2.1, numT_cons, if_pos ⟨HC.out.2, hb.1 rfl⟩], rfl, hsl rfl⟩
            | false => exact .inr ⟨by rw [hZ.out.2.2.2.2.1, numT_cons, if_neg (fun h => by have := hb.2 h.2; cases this)], rfl⟩
          have hsl1 : ∀ W', Below wc.heap.size wc W' → c2 ≠ 1 → SL W' (.slice (some ⟨q2, o2 + 1, none⟩) T3.length (c2 - 1)) T3 := by
            intro W' hb hne
            refine SL.keep (w := wc) ⟨_, c2 - 1, rfl, by omega, by omega, fun h0 => ⟨q2, o2 + 1, rfl, hq2, fun i t' ht' => ?_⟩⟩ hb
            have := HZ2.out.2.2 (i + 1) t' (by simpa using ht')
            rw [show o2 + (i + 1) = o2 + 1 + i by omega] at this
            exact this
          have hsl0 : ∀ W', c2 = 1 → SL W' (.slice (some ⟨q2, o2, none⟩) T3.length 0) T3 := fun W' h => ⟨_, 0, rfl, by omega, by omega, fun h0 => by omega⟩
          have HF := Lib.hid (And.intro hfin (And.intro hsl1 hsl0)); clear hfin hsl1 hsl0
          have HC1 := Lib.hid (HC.out.1 wc (Below.refl _ _))
          clear HC
          rcases hf with ⟨hf1, hf2⟩ | hf
          · go_upto_region 7 with (go_at_call 14; refine HC1.out.mono ?_; rintro e w' ⟨b, rfl, hb, hbl⟩)
            have HB := Lib.hid (And.intro hb hbl); clear hb hbl
            go_quiet (fail)
            by_cases hc1 : c2 = 1
            · have HC2 := Lib.hid hc1
              subst hc1
              go_wp2_with fail
              refine bodyPost_ret_by (results_tmp3 rfl _ _ _) rfl ?_
              exact HF.out.1 b wc _ _ HB.out.1 (below_drewN HB.out.2 _) (fun _ => HF.out.2.2 _ HC2.out)
            · have HC2 := Lib.hid hc1
              go_wp2_with fail
              refine bodyPost_ret_by (results_tmp3 rfl _ _ _) rfl ?_
              exact HF.out.1 b wc _ _ HB.out.1 (below_drewN HB.out.2 _) (fun _ => HF.out.2.1 _ (below_drewN HB.out.2 _) HC2.out)
          · have e1 : ((S2[0].toNat : Int) == 46) = true := by rw [hf]; rfl
            have e2 : ¬ (48 : Int) ≤ (S2[0].toNat : Int) := by omega
            clear hf
            go_upto_region 7 with (go_at_call 14; refine HC1.out.mono ?_; rintro e w' ⟨b, rfl, hb, hbl⟩)
            have HB := Lib.hid (And.intro hb hbl); clear hb hbl
            go_quiet (fail)
            by_cases hc1 : c2 = 1
            · have HC2 := Lib.hid hc1
              subst hc1
              go_wp2_with fail
              refine bodyPost_ret_by (results_tmp3 rfl _ _ _) rfl ?_
              exact HF.out.1 b wc _ _ HB.out.1 (below_drewN HB.out.2 _) (fun _ => HF.out.2.2 _ HC2.out)
            · have HC2 := Lib.hid hc1
              go_wp2_with fail
              refine bodyPost_ret_by (results_tmp3 rfl _ _ _) rfl ?_
              exact HF.out.1 b wc _ _ HB.out.1 (below_drewN HB.out.2 _) (fun _ => HF.out.2.1 _ (below_drewN HB.out.2 _) HC2.out)
        · have hx : X = none := by rw [hZ.out.2.2.2.2.1, numT_cons, if_neg (fun h => h49 h.1)]
          have e1 : ((S2[0].toNat : Int) == 46) = false := beq_false_of_ne (fun e => h46 ((byte_eq _ _).2 e))
          have e2 : ¬ ((48 : Int) ≤ (S2[0].toNat : Int) ∧ (S2[0].toNat : Int) ≤ 57) := fun h => by rw [(isDig_iff _).2 h] at hnd; cases hnd
          have HX := Lib.hid hx
          clear hx h49 hnd h46
          by_cases h48 : (48 : Int) ≤ (S2[0].toNat : Int)
          · have e3 : ¬ (S2[0].toNat : Int) ≤ 57 := fun h => e2 ⟨h48, h⟩
            clear e2
            go_wp2_with fail
            exact bodyPost_ret_by (results_tmp3 rfl _ _ _) rfl ⟨0, _, false, rfl, .inr ⟨HX.out, rfl⟩, hZ.out.2.2.2.1⟩
          · clear e2
            go_wp2_with fail
            exact bodyPost_ret_by (results_tmp3 rfl _ _ _) rfl ⟨0, _, false, rfl, .inr ⟨HX.out, rfl⟩, hZ.out.2.2.2.1⟩

end Go.Proofs.YtblpcpkkjbkakaaGreatDoor
/- FnReadNumber's walk. -/
namespace Go.Proofs.YtblpcpkkjbkakaaGreatDoor
open Go Go.RowKit
set_option linter.unusedVariables false
set_option linter.unusedSimpArgs false

set_option maxRecDepth 100000 in
set_option maxHeartbeats 4000000 in
theorem fnRead_any (s : ByteArray) (w : World) (hs : s.size ≤ 9223372036854775807) (B0 : Nat) (g gl gp : Nat × Nat) (hG : GlN B0 g gl gp w) : Calls Tryz.prog 3 #[.string s] w fun e w' => e = .returned (.bool true) ∧ Below w.heap.size w w' := by
  have HG := Lib.hid hG; clear hG
  have h8 := call8
  go_enter Tryz.func3, Tryz.ntmps3
  by_cases hbig : 2147483647 < s.size
  · go_wp2_with fail
    go_ret
    exact ⟨rfl, Below.refl _ _⟩
  · go_wp2_with fail
    refine (pTokens_any s w hs).mono ?_
    rintro e w1 (⟨v, T, rfl, hsz, htk, hpad, hTl, hrow, hb⟩ | ⟨v, rfl, hb⟩)
    · have hok : TksOk T := fun t ht => ⟨toks_ok htk t ht, by have := toks_len htk t ht; rw [← Lib.size_eq] at this; omega, hpad t ht⟩
      have hG1 := HG.out.keep (hb.mono HG.out.hB.2.2.2.2)
      have H6 := Lib.hid (implRead_any s T g gl gp w1 hsz htk hpad B0 hG1)
      have hsl := SL.of_row hrow (by omega)
      have HZ := Lib.hid (And.intro hok (And.intro hG1 (And.intro hsl hb)))
      clear htk hpad hrow hb hok hG1 hsl
      generalize hX : numX T = X at H6
      have HX := Lib.hid hX; clear hX
      go_upto_region 7 with (go_at_call 6; refine H6.out.mono ?_; rintro e w2 ⟨f1, b1, rfl, hk1, hb1⟩)
      have h7 := pNumber_any v T B0 g gl gp w2 (HZ.out.2.2.1.keep hb1) HZ.out.1 (HZ.out.2.1.keepO hb1)
      rw [HX.out] at h7
      have H7 := Lib.hid h7; clear h7
      have HK := Lib.hid (And.intro hk1 hb1); clear hk1 hb1
      go_upto_region 8 with (go_at_call 7; refine H7.out.mono ?_; rintro e w3 ⟨f2, sv, b2, rfl, hk2, hb2⟩)
      have hbl : Below w.heap.size w w3 := by
        have h1 := HZ.out.2.2.2
        have h2 := HK.out.2
        exact (h1.trans (h2.mono h1.size)).trans (hb2.mono (by have := h1.size; have := h2.size; omega))
      have hk1 := HK.out.1
      rcases hk1 with ⟨T1, hx1, rfl⟩ | ⟨hx1, rfl⟩
      · rcases hk2 with ⟨T2, hx2, rfl, -⟩ | ⟨hx2, rfl⟩
        · rw [hx1] at hx2
          have := Option.some.inj hx2
          obtain ⟨rfl, -⟩ := Prod.mk.inj this
          have HBL := Lib.hid hbl
          clear hbl hb2 hx1 hx2 this H6 H7 HK
          go_wp2_with fail
          go_ret
          exact ⟨rfl, HBL.out⟩
        · rw [hx1] at hx2; cases hx2
      · rcases hk2 with ⟨T2, hx2, rfl, -⟩ | ⟨hx2, rfl⟩
        · rw [hx1] at hx2; cases hx2
        · have HBL := Lib.hid hbl
          clear hbl hb2 hx1 hx2 H6 H7 HK
          go_wp2_with fail
          go_ret
          exact ⟨rfl, HBL.out⟩
    · go_wp2_with fail
      go_ret
      exact ⟨rfl, hb⟩

end Go.Proofs.YtblpcpkkjbkakaaGreatDoor
/- Reading a number of the empty text, and of whatever is no number, in the reference. -/
namespace Go.Proofs.YtblpcpkkjbkakaaGreatDoor
open Go Go.RowKit
set_option linter.unusedVariables false
set_option linter.unusedSimpArgs false

set_option maxRecDepth 100000 in
theorem special_empty (w : World) : Calls Tryz.prog 124 #[.string ⟨#[]⟩] w (SpPost w) := by
  go_enter Tryz.func124, Tryz.ntmps124
  go_wp2_with fail
  exact bodyPost_ret_by (results_tmp3 rfl _ _ _) rfl ⟨⟨_, 0, false, rfl, fun h => absurd h (by decide), by omega, by omega⟩, rfl⟩
set_option maxRecDepth 100000 in
theorem readFloat_empty (w : World) : Calls Tryz.prog 125 #[.string ⟨#[]⟩] w (RfNot w) := by
  go_enter Tryz.func125, Tryz.ntmps125
  go_wp2_with fail
  go_step3
  go_wp2_with fail
  exact bodyPost_ret_by (results_tmp7' rfl _ _ _) rfl ⟨⟨_, _, _, _, 0, by omega, by omega, rfl⟩, rfl⟩
set_option maxRecDepth 100000 in
theorem atof64_empty (w : World) : Calls Tryz.prog 101 #[.string ⟨#[]⟩] w (O101 (fun f n c => (c = 0 ∧ specialWord f) ∨ c = 2) w) := by
  have h1 := special_empty w
  have h2 := readFloat_empty w
  unfold SpPost at h1
  unfold RfNot at h2
  have H1 := Lib.hid h1; have H2 := Lib.hid h2; clear h1 h2
  go_enter Tryz.func101, Tryz.ntmps101
  go_upto_region 2 with (go_at_call 124; refine H1.out.mono ?_; rintro e w' ⟨⟨f, n, ok, rfl, k1, k2, k3⟩, rfl⟩)
  cases ok with
  | true =>
    have hk := k1 rfl
    have HK := Lib.hid hk; clear hk k1
    go_wp2_with fail
    exact bodyPost_ret_by (results_tmp3 rfl _ _ _) rfl ⟨f, n, 0, .inl ⟨rfl, HK.out⟩, by omega, by omega, by omega, rfl, Below.refl _ _⟩
  | false =>
    clear k1
    go_wp2_with (go_at_call 125; refine H2.out.mono ?_; rintro e w' ⟨⟨a, b, c, d, x, x1, x2, rfl⟩, rfl⟩)
    exact bodyPost_ret_by (results_tmp3 rfl _ _ _) rfl ⟨0, x, 2, .inr rfl, by omega, by omega, by omega, rfl, Below.refl _ _⟩
theorem p28_empty (w : World) (B : Nat) (hR : GlR B w) (hsz : 4 ≤ w.heap.size) : Calls Tryz.prog 28 #[.string ⟨#[]⟩, .int .i64 64] w (N28 ⟨#[]⟩ w) := by
  refine (p28_gen ⟨#[]⟩ (by decide) _ B w hR hsz (atof64_empty w)).mono ?_
  rintro e w' ⟨f, n, c, v, hQ, rfl, h1, h2, h3⟩
  by_cases hn : n = (⟨#[]⟩ : ByteArray).size
  · rw [if_pos hn] at h1 h2
    refine ⟨f, v, by rw [if_pos hn], ?_, h3⟩
    rcases hQ with ⟨rfl, hf⟩ | rfl
    · exact .inl ⟨h1 rfl, hf⟩
    · exact .inr (h2 (by decide))
  · rw [if_neg hn] at h1 h2
    exact ⟨0, v, by rw [if_neg hn], .inr (h2 (by decide)), h3⟩
/-- Whatever the reference reads: a number and whether it is one. -/
def SrG (w : World) (e : Ending) (w' : World) : Prop := ∃ f b, e = .returned (.tuple #[.float .f64 f, .bool b]) ∧ Below w.heap.size w w'
set_option maxRecDepth 100000 in
theorem sr_gen (S : ByteArray) (w : World) (h : Calls Tryz.prog 28 #[.string S, .int .i64 64] w (N28 S w)) : Calls Tryz.prog 14 #[.string S] w (SrG w) := by
  have H := Lib.hid h; clear h
  go_enter Tryz.func14, Tryz.ntmps14
  go_upto_region 2 with (go_at_call 28; refine H.out.mono ?_; rintro e w1 ⟨f, v, rfl, h1, hb⟩)
  rcases h1 with ⟨rfl, -⟩ | ⟨N, ex, rfl, -⟩
  · have HH := Lib.hid hb; clear hb
    go_quiet (fail)
    go_wp2_with fail
    go_ret2
    exact ⟨f, true, rfl, below_drewN HH.out _⟩
  · have HH := Lib.hid hb; clear hb
    go_quiet (fail)
    go_wp2_with fail
    go_ret2
    exact ⟨f, false, rfl, below_drewN HH.out _⟩
theorem sr_minus (w : World) (B : Nat) (hR : GlR B w) (hsz : 4 ≤ w.heap.size) : Calls Tryz.prog 14 #[.string ⟨#[45]⟩] w (SrG w) :=
  sr_gen _ w (p28_not ⟨#[45]⟩ w (by decide) (by decide) B hR hsz (.inl ⟨rfl, rfl⟩))
theorem sr_empty (w : World) (B : Nat) (hR : GlR B w) (hsz : 4 ≤ w.heap.size) : Calls Tryz.prog 14 #[.string ⟨#[]⟩] w (SrG w) := sr_gen _ w (p28_empty w B hR hsz)
end Go.Proofs.YtblpcpkkjbkakaaGreatDoor
