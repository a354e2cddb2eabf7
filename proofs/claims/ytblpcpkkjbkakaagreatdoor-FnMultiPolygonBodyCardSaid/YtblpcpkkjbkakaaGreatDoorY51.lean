/- Lemmas towards the seat's laws: 3 texts joined. -/
import Derived.Test.YtblpcpkkjbkakaaGreatDoorY52
import Derived.Test.YtblpcpkkjbkakaaGreatDoorY53
import Derived.Test.YtblpcpkkjbkakaaGreatDoorY50
import Derived.Test.YtblpcpkkjbkakaaGreatDoorY46
import Derived.Test.YtblpcpkkjbkakaaGreatDoorY49
/- The reference's making of a geometry anew, where nothing is to be changed: a line. -/
namespace Go.Proofs.YtblpcpkkjbkakaaGreatDoor
open Go Go.RowKit
set_option linter.unusedVariables false
set_option linter.unusedSimpArgs false

theorem newL (d : Nat) (F : Nat → Prop) (cs : List Value) (xs : List Nat) (w : World) (hd : d < 4) (h : GLc d F w cs xs) :
    Calls Tryz.prog 29 #[.agg ⟨cs⟩] w (FrPost (GLc d) xs w) := by
  by_cases hp : 0 < xs.length
  · exact newL_pos d F cs xs w hd h hp
  · obtain ⟨vN, rfl, hown, h3, h4⟩ := id h
    obtain ⟨a, n, c, rfl⟩ := ownsRow_slice hown
    cases a with
    | none => exact newL_none d F _ xs w hd h hp (fun b n c u v k e => by simp at e)
    | some a => exact newL_some d F _ xs w hd h hp (fun n c u v k e => by simp at e)
end Go.Proofs.YtblpcpkkjbkakaaGreatDoor
/- New on lines, polygons, several; the reference's reading joined. -/
namespace Go.Proofs.YtblpcpkkjbkakaaGreatDoor
open Go Go.RowKit
set_option linter.unusedVariables false
set_option linter.unusedSimpArgs false

theorem new3 (d : Nat) (F : Nat → Prop) (cs : List Value) (l : List (List Nat)) (w : World) (hd : d < 4) (h : GPc d F w cs l) : Calls Tryz.prog 29 #[.agg ⟨cs⟩] w (FrPost (GPc d) l w) :=
  newK (GLc.rep d) (fun _ => True) 3 2 d (.inl ⟨rfl, rfl⟩) F cs l w hd (fun _ _ => trivial) h
    (fun F w cs x hx => by obtain ⟨v, rfl, -⟩ := hx; exact ⟨_, _, rfl⟩)
    (fun F cs x W _ hR => newL d F cs x W hd hR)
    (fun F cs W hR => frc3 d F cs l W hd hR)
theorem new6 (d : Nat) (F : Nat → Prop) (cs : List Value) (l : List (List (List Nat))) (w : World) (hd : d < 4) (h : GMc d F w cs l) : Calls Tryz.prog 29 #[.agg ⟨cs⟩] w (FrPost (GMc d) l w) :=
  newK (GKc.rep (GLc.rep d) 3 d) (fun _ => True) 6 3 d (.inr ⟨rfl, rfl⟩) F cs l w hd (fun _ _ => trivial) h
    (fun F w cs x hx => by obtain ⟨v, ccs, rfl, -⟩ := hx; exact ⟨_, _, rfl⟩)
    (fun F cs x W _ hR => new3 d F cs x W hd hR)
    (fun F cs W hR => frc6 d F cs l W hd hR)
theorem readWKT_any (d : Nat) (P : List Tok) (s : ByteArray) (B : Nat) (g gl gp : Nat × Nat) (w : World) (hd : d < 4) (hs : s.size ≤ 100000) (hts : toks false s.data.toList = some ((97, mpW) :: (tagT d ++ P))) (hok : TksOk P)
    (hne : d = 0 → ∀ t T2, P = t :: T2 → t.1 = 97 → t.2 ≠ [90] ∧ t.2 ≠ [77] ∧ t.2 ≠ [90, 77]) (hG : GlN B g gl gp w) (hT : P.length ≤ 99999) : Calls Tryz.prog 16 #[.string s] w (RwPost d P w) :=
  readWKT_gen d P s B g gl gp w hd hs hts hok hne hG hT fun F cs x W hR => new6 d F cs x W hd hR
end Go.Proofs.YtblpcpkkjbkakaaGreatDoor
/- The length of a joined text; the last two functions. -/
namespace Go.Proofs.YtblpcpkkjbkakaaGreatDoor
open Go Go.RowKit
set_option linter.unusedVariables false
set_option linter.unusedSimpArgs false

theorem joinF_len : ∀ (k : Nat) (j : Bool) (l : List UInt8) (T : List (UInt8 × List UInt8)), toksF k j l = some T → (joinT T).length ≤ l.length + T.length := by
  intro k
  induction k with
  | zero =>
    intro j l T h
    cases l with
    | nil => simp [toksF] at h; subst h; simp [joinT]
    | cons c r => simp [toksF] at h
  | succ k ih =>
    intro j l T h
    cases l with
    | nil => simp [toksF] at h; subst h; simp [joinT]
    | cons c r =>
      simp only [toksF] at h
      by_cases hb : isBlank c = true
      · rw [if_pos hb] at h; have := ih _ _ _ h; simp; omega
      · rw [if_neg hb] at h
        by_cases hs : isSign c = true
        · rw [if_pos hs] at h
          split at h
          · cases h
          · obtain ⟨T', h1, rfl⟩ := Option.map_eq_some_iff.1 h
            have := ih _ _ _ h1
            rw [joinT_cons]; simp; omega
        · rw [if_neg hs] at h
          by_cases hl : isLet c = true
          · rw [if_pos hl] at h
            split at h
            · cases h
            · obtain ⟨T', h1, rfl⟩ := Option.map_eq_some_iff.1 h
              have := ih _ _ _ h1
              rw [joinT_cons]
              simp only [List.length_drop, List.length_append, List.length_take, List.length_cons] at this ⊢
              omega
          · rw [if_neg hl] at h
            split at h
            · cases h
            · obtain ⟨T', h1, rfl⟩ := Option.map_eq_some_iff.1 h
              have := ih _ _ _ h1
              rw [joinT_cons]
              simp only [List.length_drop, List.length_append, List.length_take, List.length_cons] at this ⊢
              omega
theorem join_len {j : Bool} {l : List UInt8} {T : List (UInt8 × List UInt8)} (h : toks j l = some T) : (joinT T).length ≤ l.length + T.length := joinF_len _ _ _ _ h
/-- Found to be right. -/
def OkPost (w : World) (e : Ending) (w' : World) : Prop := e = .returned (.bool true) ∧ Below w.heap.size w w'
set_option maxRecDepth 100000 in
set_option maxHeartbeats 4000000 in
theorem pRead_any (s : ByteArray) (d : Int) (w : World) (hs : s.size ≤ 9223372036854775807) (B0 : Nat) (g gl gp : Nat × Nat) (hG : GlN B0 g gl gp w) : Calls Tryz.prog 9 #[.int .i64 6, .string s, .int .i64 d, .func (.func 10) #[] #[]] w (OkPost w) := by
  have hpt := pTokens_any s w hs
  have HG := Lib.hid (And.intro hG hpt); clear hG hpt
  go_enter Tryz.func9, Tryz.ntmps9
  go_upto_region 2 with (go_at_call 5; refine HG.out.2.mono ?_; rintro e w1 (⟨v, T, rfl, hsz, htk, hpad, hTl, hrow, hb⟩ | ⟨v, rfl, hb⟩))
  · have hok : TksOk T := fun t ht => ⟨toks_ok htk t ht, by have := toks_len htk t ht; rw [← Lib.size_eq] at this; omega, hpad t ht⟩
    have hG1 := HG.out.1.keep (hb.mono HG.out.1.hB.2.2.2.2)
    have hsl := SL.of_row hrow (by omega)
    have hjl : (joinT T).length ≤ 4000 := by have := join_len htk; rw [← Lib.size_eq] at this; omega
    have hpb := pBody_any v T w1 hsl (by omega) (by omega)
    have HZ := Lib.hid (And.intro hok (And.intro hG1 (And.intro hb (And.intro htk (And.intro hpad (And.intro hTl (And.intro hjl hpb)))))))
    clear htk hpad hrow hb hok hG1 hsl hjl hTl hpb HG
    by_cases hd0 : d < 0
    · go_wp2_with fail
      go_ret
      exact ⟨rfl, HZ.out.2.2.1⟩
    by_cases hd3 : 3 < d
    · go_wp2_with fail
      go_ret
      exact ⟨rfl, HZ.out.2.2.1⟩
    obtain ⟨n, rfl⟩ : ∃ n : Nat, d = n := ⟨d.toNat, by omega⟩
    have hn : n < 4 := by omega
    go_upto_region 5 with (go_at_call 15; refine HZ.out.2.2.2.2.2.2.2.mono ?_; rintro e w2 ⟨rfl, x, b, rfl, hk⟩; replace hk := Lib.hid hk)
    go_upto_region 6 with fail
    obtain ⟨W2, hW2⟩ : ∃ W2, W2 = w1.alloc (.cells #[.int .i64 0, .int .i64 0, .slice none 0 0, .slice none 0 0] 45) := ⟨_, rfl⟩
    have r2 : Rw w1.heap.size #[.int .i64 0, .int .i64 0, .slice none 0 0, .slice none 0 0] 45 W2 := by rw [hW2]; exact Rw.new _ _ _
    have hb2 : Below w1.heap.size w1 W2 := by rw [hW2]; exact (Below.refl _ _).alloc (Nat.le_refl _) _
    rw [← hW2]
    clear hW2
    have hG2 := HZ.out.2.1.keep (hb2.mono HZ.out.2.1.hB.2.2.2.2)
    have him := implMulti_any s n B0 g gl gp T W2 hsz hn HZ.out.2.2.2.1 HZ.out.2.2.2.2.1 hG2 (by have := HZ.out.2.2.2.2.2.1; omega)
    have hbw : Below w.heap.size w W2 := HZ.out.2.2.1.trans (hb2.mono HZ.out.2.2.1.size)
    have hokT : ∀ t ∈ T, TokOk t := fun t ht => (HZ.out.1 t ht).1
    by_cases hb0 : b = true
    · subst hb0
      obtain ⟨P, hp, hx⟩ : ∃ P, pbF true 0 T = some (P, true) ∧ x = ⟨(joinT P).toArray⟩ := by
        have hk := hk.out
        split at hk
        · cases hk
        · next P b' hp => exact ⟨P, by rw [hp, ← hk.1], hk.2⟩
      obtain ⟨R, hTR⟩ := pbF_pre T _ _ _ _ hp
      have hlaw := (body_law n T P true hokT hp).2 rfl
      have hokP : TksOk P := fun t ht => HZ.out.1 t (by rw [hTR]; exact List.mem_append_left _ ht)
      have hPl : P.length ≤ 2000 := by have := HZ.out.2.2.2.2.2.1; have h2 : T.length = P.length + R.length := by rw [hTR, List.length_append]
                                       omega
      have hjP : (joinT P).length ≤ 4000 := by have := HZ.out.2.2.2.2.2.2.1; rw [hTR, joinT_app, List.length_append] at this; omega
      obtain ⟨K6, hK6⟩ : ∃ K6 : ByteArray, K6 = ⟨#[77, 85, 76, 84, 73, 80, 79, 76, 89, 71, 79, 78]⟩ := ⟨_, rfl⟩
      obtain ⟨xt, hxt⟩ : ∃ xt : ByteArray, xt = ⟨(xTagL n).toArray⟩ := ⟨_, rfl⟩
      have hsK : K6.size = 12 := by rw [hK6]; rfl
      have hxl : (xTagL n).length ≤ 4 := by
        obtain rfl | rfl | rfl | rfl : n = 0 ∨ n = 1 ∨ n = 2 ∨ n = 3 := by omega
        all_goals decide
      have hsx : xt.size ≤ 4 := by rw [hxt]; simpa [ByteArray.size] using hxl
      have hs3 : x.size ≤ 4000 := by rw [hx]; simpa [ByteArray.size] using hjP
      have htxt : K6 ++ xt ++ (⟨#[32]⟩ : ByteArray) ++ x = ⟨(mpW ++ xTagL n ++ [32] ++ joinT P).toArray⟩ := by
        rw [hK6, hxt, hx, show (⟨#[32]⟩ : ByteArray) = ⟨[32].toArray⟩ from rfl, show (⟨#[77, 85, 76, 84, 73, 80, 79, 76, 89, 71, 79, 78]⟩ : ByteArray) = ⟨mpW.toArray⟩ from rfl, ba_app, ba_app, ba_app]
      have hkd := fun W => pKind6 W
      have hxg := fun W => xTag_any n W hn
      rw [← hK6] at hkd
      rw [← hxt] at hxg
      have hne : n = 0 → ∀ t T2, P = t :: T2 → t.1 = 97 → t.2 ≠ [90] ∧ t.2 ≠ [77] ∧ t.2 ≠ [90, 77] := by
        intro _ t T2 hPt _
        obtain ⟨t', P', hPh, ht⟩ := pbF_head hp
        rw [hPt] at hPh
        obtain ⟨rfl, -⟩ := List.cons.inj hPh
        rcases ht with ht | ht | ht <;> rw [ht] <;> decide
      have hrd : ∀ W, Below W2.heap.size W2 W → Calls Tryz.prog 16 #[.string (K6 ++ xt ++ (⟨#[32]⟩ : ByteArray) ++ x)] W (RwPost n P W) := fun W hW => by
        refine readWKT_any n P _ B0 g gl gp W hn (by simp only [ByteArray.size_append]; have : (⟨#[32]⟩ : ByteArray).size = 1 := rfl; omega) ?_ hokP hne (hG2.keep (hW.mono hG2.hB.2.2.2.2)) (by omega)
        rw [htxt, List.toList_toArray]
        exact toks_text n hn P fun t ht => (hokP t ht).1
      have him2 : ∀ W, Below w1.heap.size w1 W → Calls Tryz.prog 10 #[.string s, .int .i64 n] W (ImPost n T W) := fun W hW =>
        implMulti_any s n B0 g gl gp T W hsz hn HZ.out.2.2.2.1 HZ.out.2.2.2.2.1 (HZ.out.2.1.keep (hW.mono HZ.out.2.1.hB.2.2.2.2)) (by have := HZ.out.2.2.2.2.2.1; omega)
      have hl2 : w1.heap.size < W2.heap.size := r2.lt
      have HX := Lib.hid (And.intro hkd (And.intro hxg (And.intro hrd (And.intro him2 (And.intro hlaw (And.intro r2 (And.intro hb2 (And.intro hl2 HZ.out.2.2.1))))))))
      clear hkd hxg hrd him2 hlaw r2 hb2 hl2 him hbw hokT hG2 hK6 hxt hxl hx hjP hPl hokP hTR hp hne htxt hk HZ
      have a0 : ¬ (9223372036854775807 : Int) < (K6.size : Int) + xt.size := by omega
      go_upto_region 8 with (first | (go_at_call 17; refine (HX.out.1 _).mono ?_; rintro e w3 ⟨rfl, rfl⟩) | (go_at_call 18; refine (HX.out.2.1 _).mono ?_; rintro e w3 ⟨rfl, hb3⟩; replace hb3 := Lib.hid hb3) | (go_at_call 16; refine (HX.out.2.2.1 _ hb3.out).mono ?_; rintro e w4 ⟨cs, b1, rfl, h1, h2, ⟨y0, y1, y2, y3, y4, y5, y6, y7, rfl⟩, hb4⟩; have r4 := (HX.out.2.2.2.2.2.1.old hb3.out HX.out.2.2.2.2.2.2.2.1).old (hb4) (Nat.lt_of_lt_of_le HX.out.2.2.2.2.2.2.2.1 hb3.out.size); have d0 := r4.cell 0 (v := Value.int .i64 0) rfl; have d1 := r4.cell 1 (v := Value.int .i64 0) rfl; have d2 := r4.cell 2 (v := Value.slice none 0 0) rfl; have d3 := r4.cell 3 (v := Value.slice none 0 0) rfl; have z0 := r4.froz 0; have z1 := r4.froz 1; have z2 := r4.froz 2; have z3 := r4.froz 3; replace h1 := Lib.hid (And.intro h1 (And.intro h2 (And.intro hb4 r4))); clear h2 hb4 r4))
      obtain ⟨h1, h2, hb4, r4⟩ := h1.out
      have hs3' := hb3.out.size
      have hl2 := HX.out.2.2.2.2.2.2.2.1
      have hs4 := hb4.size
      have hb2 := HX.out.2.2.2.2.2.2.1
      obtain ⟨W5, hW5⟩ : ∃ W5, W5 = ((((w4.setCell ⟨w1.heap.size, 0, none⟩ (.int .i64 y0)).setCell ⟨w1.heap.size, 1, none⟩ (.int .i64 y1)).setCell ⟨w1.heap.size, 2, none⟩ (.slice y2 y3 y4)).setCell ⟨w1.heap.size, 3, none⟩ (.slice y5 y6 y7)) := ⟨_, rfl⟩
      rw [← hW5]
      have r5 : Rw w1.heap.size #[.int .i64 y0, .int .i64 y1, .slice y2 y3 y4, .slice y5 y6 y7] 45 W5 := by rw [hW5]; exact (((r4.set 0 (.int .i64 y0)).set 1 (.int .i64 y1)).set 2 (.slice y2 y3 y4)).set 3 (.slice y5 y6 y7)
      have hb5 : Below w1.heap.size w1 w4 := (hb2.trans (hb3.out.mono (by omega))).trans (hb4.mono (by omega))
      have hb6 : Below w1.heap.size w1 W5 := by rw [hW5]; exact (((hb5.setCell (p := ⟨w1.heap.size, 0, none⟩) (Nat.le_refl _) _).setCell (p := ⟨w1.heap.size, 1, none⟩) (Nat.le_refl _) _).setCell (p := ⟨w1.heap.size, 2, none⟩) (Nat.le_refl _) _).setCell (p := ⟨w1.heap.size, 3, none⟩) (Nat.le_refl _) _
      have h15 : b1 = true → ∃ x, mpolyP n P = some (x, []) ∧ GMc n (fun k => w3.heap.size ≤ k) W5 [.int .i64 y0, .int .i64 y1, .slice y2 y3 y4, .slice y5 y6 y7] x := fun hb => by
        obtain ⟨x, hx, hR⟩ := h1 hb
        exact ⟨x, hx, (GKc.rep (GKc.rep (GLc.rep n) 3 n) 6 n).keep _ w4 _ _ _ hR fun k hk _ => by rw [hW5]; exact set4_keep _ _ _ _ _ _ _ (by have : w3.heap.size ≤ k := hk; omega)⟩
      have him := HX.out.2.2.2.1 W5 hb6
      have hlaw := HX.out.2.2.2.2.1
      have hbw := HX.out.2.2.2.2.2.2.2.2
      have HY := Lib.hid (And.intro h15 (And.intro h2 (And.intro r5 (And.intro hb6 (And.intro him (And.intro hlaw hbw))))))
      clear h15 h1 h2 r5 hb6 him hlaw hbw hb5 hb4 hb3 hb2 hs4 hl2 hs3' hW5 HX r4 d0 d1 d2 d3 z0 z1 z2 z3 hsK hsx hs3 a0
      go_upto_region 9 with (go_at_call 10; refine HY.out.2.2.2.2.1.mono ?_; rintro e w7 ⟨cs, b2, rfl, g1, g2, ⟨u0, u1, u2, u3, u4, u5, u6, u7, rfl⟩, hb7⟩; replace g1 := Lib.hid (And.intro g1 (And.intro g2 hb7)); clear g2 hb7)
      obtain ⟨h15, h2, r5, hb6, -, hlaw, hbw⟩ := HY.out
      obtain ⟨g1, g2, hb7⟩ := g1.out
      obtain ⟨W8, hW8⟩ : ∃ W8, W8 = w7.alloc (.cells #[.int .i64 u0, .int .i64 u1, .slice u2 u3 u4, .slice u5 u6 u7] 45) := ⟨_, rfl⟩
      have hs6 := hb6.size
      have hs7 := hb7.size
      have hl5 := r5.lt
      have hb8 : Below w7.heap.size w7 W8 := by rw [hW8]; exact (Below.refl _ _).alloc (Nat.le_refl _) _
      have r8 : Rw w1.heap.size #[.int .i64 y0, .int .i64 y1, .slice y2 y3 y4, .slice y5 y6 y7] 45 W8 := (r5.old hb7 hl5).old hb8 (by omega)
      have m8 : Rw w7.heap.size #[.int .i64 u0, .int .i64 u1, .slice u2 u3 u4, .slice u5 u6 u7] 45 W8 := by rw [hW8]; exact Rw.new _ _ _
      have hbf : Below w.heap.size w W8 := (hbw.trans (hb6.mono hbw.size)).trans ((hb7.trans (hb8.mono hs7)).mono (by have := hbw.size; omega))
      rw [← hW8]
      clear hW8
      have HF := Lib.hid hbf; clear hbf hbw
      cases b1 with
      | true =>
        obtain ⟨x1, hx1, hR1⟩ := h15 rfl
        obtain ⟨R1, hT1⟩ := (hlaw x1).1 hx1
        cases b2 with
        | false => rw [g2 rfl] at hT1; cases hT1
        | true =>
          obtain ⟨x2, T2, hT2, hR2⟩ := g1 rfl
          obtain rfl : x2 = x1 := by rw [hT1] at hT2; exact ((Prod.mk.inj (Option.some.inj hT2)).1).symm
          have hq1 := (GKc.rep (GKc.rep (GLc.rep n) 3 n) 6 n).keep _ W5 W8 _ _ hR1 fun k _ hk => (hb8.block k (by omega)).trans (hb7.block k hk)
          have hq2 := (GKc.rep (GKc.rep (GLc.rep n) 3 n) 6 n).keep _ w7 W8 _ _ hR2 fun k _ hk => hb8.block k hk
          have hsm := Lib.hid (same6 n hn _ _ _ _ x2 W8 hq2 hq1)
          have d0 := r8.cell 0 (v := Value.int .i64 y0) rfl; have d1 := r8.cell 1 (v := Value.int .i64 y1) rfl; have d2 := r8.cell 2 (v := Value.slice y2 y3 y4) rfl; have d3 := r8.cell 3 (v := Value.slice y5 y6 y7) rfl
          have e0 := m8.cell 0 (v := Value.int .i64 u0) rfl; have e1 := m8.cell 1 (v := Value.int .i64 u1) rfl; have e2 := m8.cell 2 (v := Value.slice u2 u3 u4) rfl; have e3 := m8.cell 3 (v := Value.slice u5 u6 u7) rfl
          clear hq1 hq2 hR1 hR2 hT1 hT2 hx1 r8 m8 hb8 hl5 hs7 hs6 hb7 g2 g1 hlaw hb6 r5 h2 h15 HY h1
          go_wp2_with (go_at_call 19; refine hsm.out.mono ?_; rintro e w9 ⟨rfl, hb9⟩; replace hb9 := Lib.hid hb9)
          go_ret
          exact ⟨rfl, HF.out.trans (hb9.out.mono HF.out.size)⟩
      | false =>
        cases b2 with
        | true =>
          obtain ⟨x2, T2, hT2, hR2⟩ := g1 rfl
          exact absurd ((hlaw x2).2 ⟨_, hT2⟩) (h2 rfl x2)
        | false =>
          clear r8 m8 hb8 hl5 hs7 hs6 hb7 g2 g1 hlaw hb6 r5 h2 h15 HY h1
          go_wp2_with fail
          go_ret
          exact ⟨rfl, HF.out⟩
    · obtain rfl : b = false := by simpa using hb0
      have hno : mpolyP n T = none := by
        have hk := hk.out
        split at hk
        · next hp => exact body_law_none n T hokT hp
        · next P b' hp => exact (body_law n T P b' hokT hp).1 hk.1.symm
      have HI := Lib.hid (And.intro him (And.intro hno hbw))
      clear him hno hbw hokT hG2 hb2 r2 hb0 hk HZ
      go_upto_region 9 with (go_at_call 10; refine HI.out.1.mono ?_; rintro e w5 ⟨cs, b2, rfl, h1, h2, ⟨y0, y1, y2, y3, y4, y5, y6, y7, rfl⟩, hb5⟩; obtain rfl : b2 = false := (by cases b2; rfl; (obtain ⟨x, T', hx, -⟩ := h1 rfl; rw [HI.out.2.1] at hx; cases hx)); replace hb5 := Lib.hid hb5; clear h1 h2)
      go_wp2_with fail
      go_ret
      exact ⟨rfl, (HI.out.2.2.trans (hb5.out.mono HI.out.2.2.size)).alloc (HI.out.2.2.trans (hb5.out.mono HI.out.2.2.size)).size _⟩
  · go_wp2_with fail
    go_ret
    exact ⟨rfl, hb⟩
set_option maxRecDepth 100000 in
set_option maxHeartbeats 4000000 in
theorem fnMulti_any (s : ByteArray) (d : Int) (w : World) (hs : s.size ≤ 9223372036854775807) (B0 : Nat) (g gl gp : Nat × Nat) (hG : GlN B0 g gl gp w) : Calls Tryz.prog 4 #[.string s, .int .i64 d] w fun e w' => e = .returned (.bool true) ∧ Below w.heap.size w w' := by
  have HG := Lib.hid hG; clear hG
  have h8 := call8
  go_enter Tryz.func4, Tryz.ntmps4
  by_cases hbig : 2147483647 < s.size
  · go_wp2_with fail
    go_ret
    exact ⟨rfl, Below.refl _ _⟩
  · go_wp2_with fail
    refine (pRead_any s d w hs B0 g gl gp HG.out).mono ?_
    rintro e w' ⟨rfl, hb⟩
    go_wp2_with fail
    go_ret
    exact ⟨rfl, hb⟩
end Go.Proofs.YtblpcpkkjbkakaaGreatDoor
