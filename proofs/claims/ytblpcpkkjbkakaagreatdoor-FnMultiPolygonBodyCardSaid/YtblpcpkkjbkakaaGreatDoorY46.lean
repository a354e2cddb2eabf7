/- Lemmas towards the seat's laws: 5 texts joined. -/
import Derived.Test.YtblpcpkkjbkakaaGreatDoorY45
import Derived.Test.YtblpcpkkjbkakaaGreatDoorY43
import Derived.Test.YtblpcpkkjbkakaaGreatDoorY39
/- The reference's making anew of a geometry with parts. -/
namespace Go.Proofs.YtblpcpkkjbkakaaGreatDoor
open Go Go.RowKit
set_option linter.unusedVariables false
set_option linter.unusedSimpArgs false

theorem b33' (d : Nat) (hd : d < 4) : bits BinOp.and IntKind.i64 (d : Int) 3 = d ∧ bits BinOp.and IntKind.i64 3 (d : Int) = d ∧ bits BinOp.and IntKind.i64 (d : Int) (d : Int) = d := by
  obtain rfl | rfl | rfl | rfl : d = 0 ∨ d = 1 ∨ d = 2 ∨ d = 3 := by omega
  all_goals exact ⟨by kernel_rfl, by kernel_rfl, by kernel_rfl⟩
set_option maxRecDepth 100000 in
set_option maxHeartbeats 4000000 in
theorem newK {α : Type} {R : (Nat → Prop) → World → List Value → α → Prop} (hRep : Rep R) (Pr : α → Prop) (kk kid d : Nat) (hkk : (kk = 3 ∧ kid = 2) ∨ (kk = 6 ∧ kid = 3)) (F : Nat → Prop) (cs : List Value) (l : List α) (w : World) (hd : d < 4) (hPr : ∀ x ∈ l, Pr x) (h : GKc R kk d F w cs l)
    (hkd : ∀ F w cs x, R F w cs x → ∃ u v, cs = [.int .i64 kid, .int .i64 d, u, v])
    (hel : ∀ F cs x W, Pr x → R F W cs x → Calls Tryz.prog 29 #[.agg ⟨cs⟩] W (FrPost R x W))
    (hfrc : ∀ F cs W, GKc R kk d F W cs l → Calls Tryz.prog 50 #[.agg ⟨cs⟩, .int .i64 d] W (FrPost (GKc R kk d) l W)) :
    Calls Tryz.prog 29 #[.agg ⟨cs⟩] w (FrPost (GKc R kk d) l w) := by
  obtain ⟨i0, hi, hz0, hz1, hz2⟩ := info_parts info45
  obtain ⟨vK, ccs, rfl, hown, -, hA, hll⟩ := h
  obtain ⟨a, c, rfl, hrow⟩ := row_slice hown
  have hcl : ∀ c ∈ ccs, c.length = 4 := All2.left (fun a b h => hRep.len F w a b h) hA
  have hf := F3.new w 45 #[.int .i64 kk, .int .i64 d, .slice none 0 0, .slice a l.length c] kk d
  have HP := Lib.hid (And.intro hf (And.intro hel (And.intro hPr (And.intro hown (And.intro hA (And.intro hrow (And.intro hcl (And.intro hkd hfrc))))))))
  clear hf hel hPr hown hA hrow hcl hkd hfrc
  obtain ⟨n, hn⟩ : ∃ n, n = l.length := ⟨_, rfl⟩
  rw [← hn] at HP
  have hllr := hll
  rw [← hn] at hll
  have HLL := Lib.hid hllr; clear hllr
  have HN := Lib.hid hn
  have hlf := fun W => leaf_any kk W (by omega)
  have hkq := fun W => kid_any kk W (by omega)
  have hl2 : (kk == 2) = false := beq_false_of_ne (by omega)
  rw [hl2] at hlf
  have hk9 : kk / 2 + 1 - kk / 6 = kid := by rcases hkk with ⟨rfl, rfl⟩ | ⟨rfl, rfl⟩ <;> rfl
  rw [hk9] at hkq
  obtain ⟨b1, b2, b3⟩ := b33' d hd
  have HB := Lib.hid (And.intro b2 b3)
  have HL := Lib.hid hlf
  have HK := Lib.hid hkq
  have k0 : ¬ (kk : Int) < 0 := by omega
  have k6 : ¬ (6 : Int) < (kk : Int) := by omega
  rw [← hn]
  clear hlf hkq hl2 hk9 b2 b3 hn
  go_enter Tryz.func29, Tryz.ntmps29
  go_upto_region 10 with (go_at_call 47; refine (HL.out _).mono ?_; rintro e w' ⟨rfl, rfl⟩)
  go_wp2_with fail
  go_loopw [5, 55] (fun dv i wr => ∃ (j : Nat) (D : Int), j ≤ n ∧ i = .int .i64 j ∧ dv = .int .i64 D ∧ bits BinOp.and IntKind.i64 D (d : Int) = d ∧ RowKit.Hid ((j = 0 ∨ D = d) ∧ ∃ vK', LpG R w.heap.size 45 #[.int .i64 kk, .int .i64 d, .slice none 0 0, .slice a n c] kk d (l.take j) vK' w wr)) (fun _ i _ => n - (intOf i).toNat)
  case atStart => exact ⟨0, 3, Nat.zero_le _, rfl, rfl, HB.out.1, Lib.hid ⟨.inl rfl, _, [], HP.out.1, World.ownsRow_nil _ _ _ _, (fun g hg => by cases hg), trivial⟩⟩
  case round =>
    obtain ⟨j, D, hj, rfl, rfl, hDd, hS⟩ := hrel
    by_cases hlt : j < n
    · obtain ⟨hf, hel, hPr, hown, hA, hrow, hcl, hkd, -⟩ := HP.out
      obtain ⟨x, hx⟩ : ∃ x, l[j]? = some x := ⟨l[j]'(by rw [← HN.out]; exact hlt), List.getElem?_eq_getElem _⟩
      obtain ⟨cj, hcj, hRx⟩ := All2.get hA j x hx
      obtain ⟨g, rfl, hg, -, hcell⟩ := hrow (by omega)
      obtain ⟨y0, y1, y2, y3, y4, y5, y6, y7, rfl⟩ := hRep.form _ _ _ _ hRx
      obtain ⟨vK', ccs', hF, hownK, hvb, hAK⟩ := hS.out.2
      have hfl : ∀ i, i < 4 → wr.cell? ⟨g, j * 4 + i, none⟩ = [Value.int .i64 y0, .int .i64 y1, .slice y2 y3 y4, .slice y5 y6 y7][i]? := fun i h => by
        rw [hF.bl.cell (p := ⟨g, j * 4 + i, none⟩) hg, ← flat_get ccs hcl j i _ h hcj]
        refine hcell _ ?_
        have e := hown.1
        omega
      have q0 : wr.cell? ⟨g, j * 4, none⟩ = some (.int .i64 y0) := hfl 0 (by decide)
      have q1 : wr.cell? ⟨g, j * 4 + 1, none⟩ = some (.int .i64 y1) := hfl 1 (by decide)
      have q2 : wr.cell? ⟨g, j * 4 + 2, none⟩ = some (.slice y2 y3 y4) := hfl 2 (by decide)
      have q3 : wr.cell? ⟨g, j * 4 + 3, none⟩ = some (.slice y5 y6 y7) := hfl 3 (by decide)
      have hxP := hPr x (List.mem_of_getElem? hx)
      have hcall := fun W (hb : Below w.heap.size w W) => hel F _ x W hxP (hRep.keep F w W _ _ hRx fun k _ hl => hb.block k hl)
      obtain ⟨L, hL⟩ : ∃ L, L = l.take j := ⟨_, rfl⟩
      have htk : l.take (j + 1) = L ++ [x] := by rw [hL, List.take_add_one, hx]; rfl
      have htl : L.length ≤ 100000 := by rw [hL, List.length_take]; omega
      rw [← hL] at hAK hownK
      have HC := Lib.hid (And.intro hcall (And.intro htk hkd))
      have HZ := Lib.hid (And.intro hF (And.intro hownK (And.intro hvb hAK)))
      have hsz : w.heap.size ≤ wr.heap.size := hF.bl.size
      clear hf hel hPr hown hA hrow hcl hx hcj hRx hcell hfl hxP hcall htk hF hownK hvb hAK hS hL hkd
      go_upto_block 1 with fail
      go_cut [5] (fun dv wx => dv = .int .i64 d ∧ RowKit.Hid (∃ vK', LpG R w.heap.size 45 #[.int .i64 kk, .int .i64 d, .slice none 0 0, .slice (some ⟨g, 0, none⟩) n c] kk d (l.take (j + 1)) vK' w wx))
      case first =>
        go_upto_region 14 with fail
        obtain ⟨W1, hW1⟩ : ∃ W1, W1 = wr.alloc (.cells #[.int .i64 y0, .int .i64 y1, .slice y2 y3 y4, .slice y5 y6 y7] 45) := ⟨_, rfl⟩
        have hbW : Below wr.heap.size wr W1 := by rw [hW1]; exact (Below.refl _ _).alloc (Nat.le_refl _) _
        have hMW : Rw wr.heap.size #[.int .i64 y0, .int .i64 y1, .slice y2 y3 y4, .slice y5 y6 y7] 45 W1 := by rw [hW1]; exact Rw.new _ _ _
        rw [← hW1]
        have m0 : W1.cell? ⟨wr.heap.size, 0, none⟩ = some (.int .i64 y0) := hMW.cell 0 rfl
        have m1 : W1.cell? ⟨wr.heap.size, 1, none⟩ = some (.int .i64 y1) := hMW.cell 1 rfl
        have m2 : W1.cell? ⟨wr.heap.size, 2, none⟩ = some (.slice y2 y3 y4) := hMW.cell 2 rfl
        have m3 : W1.cell? ⟨wr.heap.size, 3, none⟩ = some (.slice y5 y6 y7) := hMW.cell 3 rfl
        have hcl := HC.out.1 W1 (HZ.out.1.bl.trans (hbW.mono hsz))
        have HG := Lib.hid (And.intro hcl (And.intro hbW hbW.size)); clear hcl hbW hMW hW1 q0 q1 q2 q3
        go_upto_region 15 with (go_at_call 29; refine HG.out.1.mono ?_; rintro e w3 ⟨cs, rfl, hxR, hb3⟩; obtain ⟨b0, b1, b2, b3, b4, b5, b6, b7, hcs⟩ := hRep.form _ _ _ _ hxR; obtain ⟨uu, vv, hcs2⟩ := HC.out.2.2 _ _ _ _ hxR; rw [hcs] at hcs2; cases hcs2; subst hcs; have HX := Lib.hid (And.intro hxR hb3); clear hxR hb3)
        obtain ⟨W3, hW3⟩ : ∃ W3, W3 = w3.alloc (.cells #[.int .i64 kid, .int .i64 d, .slice b2 b3 b4, .slice b5 b6 b7] 45) := ⟨_, rfl⟩
        have hb3 : Below w3.heap.size w3 W3 := by rw [hW3]; exact (Below.refl _ _).alloc (Nat.le_refl _) _
        have hM3 : Rw w3.heap.size #[.int .i64 kid, .int .i64 d, .slice b2 b3 b4, .slice b5 b6 b7] 45 W3 := by rw [hW3]; exact Rw.new _ _ _
        rw [← hW3]
        clear hW3
        have n0 : W3.cell? ⟨w3.heap.size, 0, none⟩ = some (.int .i64 kid) := hM3.cell 0 rfl
        have n1 : W3.cell? ⟨w3.heap.size, 1, none⟩ = some (.int .i64 d) := hM3.cell 1 rfl
        have n2 : W3.cell? ⟨w3.heap.size, 2, none⟩ = some (.slice b2 b3 b4) := hM3.cell 2 rfl
        have n3 : W3.cell? ⟨w3.heap.size, 3, none⟩ = some (.slice b5 b6 b7) := hM3.cell 3 rfl
        have hbr : Below wr.heap.size wr W3 := (HG.out.2.1.trans (HX.out.2.mono HG.out.2.2)).trans (hb3.mono (by have := HG.out.2.2; have := HX.out.2.size; omega))
        have hF3 := HZ.out.1.old hbr
        obtain ⟨c0, c1, c2, c3⟩ := hF3.bx.cells
        have z3 := (hF3.bx.froz 3).1
        have hms : w.heap.size + 1 + 1 < W3.heap.size := hF3.bx.lt
        have hxR3 := hRep.mono _ (fun k => wr.heap.size ≤ k) _ _ _ (hRep.keep _ w3 W3 _ _ HX.out.1 fun k _ hl => hb3.block k hl) (fun k hk => Nat.le_trans HG.out.2.2 hk)
        have hown3 := ownsRow_keep (w' := W3) HZ.out.2.1 (fun k _ hl => hbr.block k hl)
        have H3 := Lib.hid (And.intro hbr (And.intro hxR3 (And.intro hown3 (And.intro hM3.lt (Nat.le_trans HG.out.2.2 HX.out.2.size)))))
        have hkk0 : ¬ (kid : Int) < 0 := by omega
        have hke : ((kid : Int) == (kid : Int)) = true := by simp
        clear hb3 hM3 hbr hF3 hxR3 hown3 HX HG m0 m1 m2 m3 c1 c2
        go_quiet (first | (refine (HK.out _).mono ?_; rintro e w' ⟨rfl, rfl⟩; exact ⟨rfl, _, rfl⟩))
        go_wp2_with (at_builtin; refine wpList_append_lies _ rfl _ _ 43 rfl 0 45 i0 _ 4 64 Tryz.underlying43 hi hz0 hz1 hz2 rfl (by decide) vK' L.length ccs'.flatten rfl ((ownsRow_keep (w' := W3.drewN nq) H3.out.2.2.1 (fun k _ _ => rfl)).alloc _) ⟨W3.heap.size, 0, none⟩ 1 1 [_, _, _, _] rfl rfl (cells_lit4 _ _ _ _ _ _ _ rfl) (by intro u hu; simp at hu; rcases hu with rfl | rfl | rfl | rfl <;> rfl) (by omega) (by unfold maxLen; omega) (by omega) (Nat.zero_le _) (W3.heap.size + 1) (by simp) ?_; intro g3 cap w4 hown4 hg4 hat hlt4; obtain ⟨c34, z34⟩ := cf_of ((hg4.block (w.heap.size + 1 + 1) (by simp; omega) (fun e => absurd (HZ.out.2.2.1 _ e.symm) (by omega))).trans (Below.heap_alloc _ _ _ hms)) ⟨c3, z3⟩; have n14 : w4.cell? ⟨w3.heap.size, 1, none⟩ = some (.int .i64 d) := (World.cell?_of_block (a := ⟨w3.heap.size, 1, none⟩) ((hg4.block w3.heap.size (by simp; have := H3.out.2.2.2.1; omega) (fun e => by have := (HZ.out.2.1.lt _ e.symm).2; have := H3.out.2.2.2.2; omega)).trans (Below.heap_alloc _ _ _ H3.out.2.2.2.1))).trans n1)
        go_meet
        case rel =>
          exact ⟨by first | rfl | (rw [hDd]), Lib.hid (by rw [HC.out.2.1]; exact ⟨_, LpG.mk hRep HZ.out.1 HZ.out.2.1 HZ.out.2.2.1 HZ.out.2.2.2 (below_drewN H3.out.1 nq) (hRep.keep _ W3 (W3.drewN nq) _ _ H3.out.2.1 fun k _ _ => rfl) hown4 hg4 hat⟩)⟩
      case rest =>
        obtain ⟨rfl, hL⟩ := hcut
        go_wp2_with fail
        go_roundw
        case rel => exact ⟨j + 1, d, by omega, by go_num, rfl, HB.out.2, Lib.hid ⟨.inr rfl, hL.out⟩⟩
        case measure => simp [intOf]; omega
    · have hjn : j = n := by omega
      subst hjn
      obtain ⟨-, vK', hL⟩ := hS.out
      rw [HN.out, List.take_length] at hL
      obtain ⟨ccs', hF, hownK, hvb, hAK⟩ := hL
      have hle : l.length = j := HN.out.symm
      rw [hle] at hownK
      obtain ⟨a2, e2, rfl, -⟩ := row_slice hownK
      obtain ⟨c0, c1, c2, c3⟩ := hF.bx.cells
      obtain ⟨o0, o1, o2, o3⟩ := hF.bx.out
      obtain ⟨z0, z0'⟩ := hF.bx.froz 0
      obtain ⟨z1, z1'⟩ := hF.bx.froz 1
      obtain ⟨z2, z2'⟩ := hF.bx.froz 2
      obtain ⟨z3, z3'⟩ := hF.bx.froz 3
      have HD := Lib.hid (LpG.done hRep (t := 45) HLL.out ⟨ccs', hF, by rw [hle]; exact hownK, hvb, hAK⟩)
      by_cases hj0 : j = 0
      · clear hF hownK hvb hAK hS
        subst hj0
        go_wp2_with fail
        exact bodyPost_ret_by (results_cell_row rfl _ _ (w.heap.size + 1) 45 _ (0, 0) _ rfl HD.out.1 Tryz.underlying45 rfl (by kernel_rfl)) rfl HD.out.2
      · have hb0 : ((j : Int) == 0) = false := beq_false_of_ne (by omega)
        have hgk : GKc R kk d (fun k => w.heap.size ≤ k) wr [.int .i64 kk, .int .i64 d, .slice none 0 0, .slice a2 j e2] l := ⟨_, ccs', rfl, by rw [hle]; exact hownK, (fun k hk => by have := hvb k hk; omega), All2.imp (fun c y hcy => hRep.mono _ _ _ _ _ hcy fun k hk => by have := hk.1; omega) hAK, HLL.out⟩
        have hcl := HP.out.2.2.2.2.2.2.2.2 _ _ wr hgk
        have hDd' : D = d := by rcases hS.out.1 with h | h; exact absurd h hj0; exact h
        subst hDd'
        have HC := Lib.hid (And.intro hcl hF)
        clear hF hownK hvb hAK hS hgk hcl HD
        go_wp2_with (go_at_call 50; refine HC.out.1.mono ?_; rintro e w5 ⟨cs5, rfl, hxR, hb5⟩; obtain ⟨y0, y1, y2, y3, y4, y5, y6, y7, rfl⟩ := (GKc.rep hRep kk d).form _ _ _ _ hxR; obtain ⟨o05, o15, o25, o35⟩ := (HC.out.2.old hb5).bx.out; obtain ⟨-, z05⟩ := (HC.out.2.old hb5).bx.froz 0; obtain ⟨-, z15⟩ := (HC.out.2.old hb5).bx.froz 1; obtain ⟨-, z25⟩ := (HC.out.2.old hb5).bx.froz 2; obtain ⟨-, z35⟩ := (HC.out.2.old hb5).bx.froz 3; replace hxR := Lib.hid (And.intro hxR hb5); clear hb5)
        have hF5 := HC.out.2.old hxR.out.2
        have hfin := hF5.fin (.int .i64 y0) (.int .i64 y1) (.slice y2 y3 y4) (.slice y5 y6 y7)
        have hlt5 := HC.out.2.bx.lt
        refine bodyPost_ret_by (results_cell_row rfl _ _ (w.heap.size + 1) 45 _ (0, 0) _ rfl hfin.1 Tryz.underlying45 rfl (by kernel_rfl)) rfl ⟨_, rfl, ?_, hfin.2⟩
        exact (GKc.rep hRep kk d).mono _ _ _ _ _ ((GKc.rep hRep kk d).keep _ w5 _ _ _ hxR.out.1 fun k hk _ => set4_keep _ _ _ _ _ _ _ (by omega)) fun k hk => by omega
end Go.Proofs.YtblpcpkkjbkakaaGreatDoor
/- The reference's reading of a text of several polygons. -/
namespace Go.Proofs.YtblpcpkkjbkakaaGreatDoor
open Go Go.RowKit
set_option linter.unusedVariables false
set_option linter.unusedSimpArgs false

theorem TL.of_row {w : World} {B : Nat} {v : Value} {T : List Tok} (h : w.ownsRow B 62 2 v T.length (tcells T)) (h0 : 0 < T.length) : ∃ q, B ≤ q ∧ q < w.heap.size ∧ TL q w v T := by
  rcases h.2 with ⟨rfl, h1⟩ | ⟨q, cap, cur, rfl, hb, hh, hn, hcap, hcs, htk⟩
  · omega
  · have hq : q < w.heap.size := (Array.getElem?_eq_some_iff.1 hh).1
    refine ⟨q, hb, hq, _, cap, rfl, hn, by unfold maxLen at hcap; omega, fun _ => ⟨0, rfl, hq, fun i t ht => ?_⟩⟩
    have hil := lt_of_get' ht
    have hc : ∀ k, k < 2 → w.cell? ⟨q, 0 + i * 2 + k, none⟩ = (tcells T)[i * 2 + k]? := fun k hk => by
      rw [Nat.zero_add]
      exact h.cellAt _ (by omega)
    have hg : ∀ k, k < 2 → (tcells T)[i * 2 + k]? = (tcell t)[k]? := by
      intro k hk
      have : tcells T = (T.map tcell).flatten := List.flatMap_def ..
      rw [this]
      refine flat_get _ ?_ i k _ hk ?_
      · intro c hc
        rw [List.mem_map] at hc
        obtain ⟨t, -, rfl⟩ := hc
        rfl
      · rw [List.getElem?_map, ht]; rfl
    have e0 := (hc 0 (by omega)).trans (hg 0 (by omega))
    have e1 := (hc 1 (by omega)).trans (hg 1 (by omega))
    exact ⟨e0, e1⟩
/-- The outcome of the reference's reading. -/
def RwPost (d : Nat) (P : List Tok) (w : World) (e : Ending) (w' : World) : Prop :=
  ∃ cs b, e = .returned (.tuple #[.agg ⟨cs⟩, .bool b]) ∧ (b = true → ∃ x, mpolyP d P = some (x, []) ∧ GMc d (fun k => w.heap.size ≤ k) w' cs x) ∧ (b = false → ∀ x, mpolyP d P ≠ some (x, [])) ∧ (∃ y0 y1 y2 y3 y4 y5 y6 y7, cs = [.int .i64 y0, .int .i64 y1, .slice y2 y3 y4, .slice y5 y6 y7]) ∧ Below w.heap.size w w'
theorem RdS.below {r q : Nat} {bad : Bool} {T : List Tok} {w w' : World} (h : RdS r q bad T w) (hb : Below w.heap.size w w') : RdS r q bad T w' := h.keepO hb
set_option maxRecDepth 100000 in
set_option maxHeartbeats 4000000 in
theorem readWKT_gen (d : Nat) (P : List Tok) (s : ByteArray) (B : Nat) (g gl gp : Nat × Nat) (w : World) (hd : d < 4) (hs : s.size ≤ 100000) (hts : toks false s.data.toList = some ((97, mpW) :: (tagT d ++ P))) (hok : TksOk P)
    (hne : d = 0 → ∀ t T2, P = t :: T2 → t.1 = 97 → t.2 ≠ [90] ∧ t.2 ≠ [77] ∧ t.2 ≠ [90, 77]) (hG : GlN B g gl gp w) (hT : P.length ≤ 99999)
    (hnew : ∀ F cs x W, GMc d F W cs x → Calls Tryz.prog 29 #[.agg ⟨cs⟩] W (FrPost (GMc d) x W)) : Calls Tryz.prog 16 #[.string s] w (RwPost d P w) := by
  have hal : Below w.heap.size w (w.alloc (.cells #[.int .i64 0, .int .i64 0, .slice none 0 0, .slice none 0 0] 45)) := (Below.refl _ _).alloc (Nat.le_refl _) _
  have hres : GRes w.heap.size (w.alloc (.cells #[.int .i64 0, .int .i64 0, .slice none 0 0, .slice none 0 0] 45)) := heap_alloc_new w _
  have htk := tokens_any s (w.alloc (.cells #[.int .i64 0, .int .i64 0, .slice none 0 0, .slice none 0 0] 45)) hs
  have HH := Lib.hid (And.intro hal (And.intro hres (And.intro htk (And.intro hts (And.intro hok (And.intro hne (And.intro hG hnew)))))))
  clear hal hres htk hts hok hne hG hnew
  go_enter Tryz.func16, Tryz.ntmps16
  go_upto_region 2 with (go_at_call 23; refine HH.out.2.2.1.mono ?_; rintro e w1 (⟨v, T, rfl, ht, hTl, hrow, hb1⟩ | ⟨rfl, ht, -⟩))
  · rw [HH.out.2.2.2.1] at ht
    have hT0 := (Option.some.inj ht).symm
    have hT1 : 0 < T.length := by rw [hT0]; simp
    obtain ⟨q, hq1, hq2, hTL⟩ := TL.of_row hrow hT1
    obtain ⟨a, c, rfl, -⟩ := row_slice hrow
    obtain ⟨W2, hW2⟩ : ∃ W2, W2 = w1.alloc (.cells #[.slice a T.length c, .bool false] 70) := ⟨_, rfl⟩
    have hs0 : (w.alloc (.cells #[.int .i64 0, .int .i64 0, .slice none 0 0, .slice none 0 0] 45)).heap.size = w.heap.size + 1 := by simp
    rw [hs0] at hq1 hb1
    have hb2 : Below w1.heap.size w1 W2 := by rw [hW2]; exact (Below.refl _ _).alloc (Nat.le_refl _) _
    have hRd : RdS w1.heap.size q false T W2 := by
      refine ⟨⟨_, ?_, hTL.keep hb2.size fun _ => hb2.block q hq2⟩, by omega, by have := hb2.size; omega⟩
      rw [hW2]; exact heap_alloc_new _ _
    have hs1 := hb1.size
    rw [hs0] at hs1
    have hbw : Below w.heap.size w W2 := (HH.out.1.trans (hb1.mono (by omega))).trans (hb2.mono (by omega))
    have hg2 : GRes w.heap.size W2 := (hb2.block _ (by omega)).trans ((hb1.block _ (by omega)).trans HH.out.2.1)
    have hG2 := HH.out.2.2.2.2.2.2.1.keepO hbw
    have hB := HH.out.2.2.2.2.2.2.1.hB
    have hRd2 := hRd
    rw [hT0] at hRd2
    have htg := rtagged w1.heap.size q d P B g gl gp W2 hRd2 hd HH.out.2.2.2.2.2.1 HH.out.2.2.2.2.1 hG2 (by omega) hT
    have HT := Lib.hid (And.intro htg (And.intro hRd (And.intro hbw hg2)))
    have hrN : w1.heap.size ≠ w.heap.size := by omega
    have hqN : q ≠ w.heap.size := by omega
    have HQ := Lib.hid (And.intro hq1 (And.intro hq2 hs1))
    clear htg hRd hRd2 hT0 hT1 hbw hg2 hG2 hB hq1 hq2 hs1 hs0 hb1 hb2 hTL hrow hTl ht
    go_upto_region 5 with fail
    rw [← hW2]
    clear hW2
    go_upto_region 6 with (first | (go_at_call 30; refine HT.out.1.mono ?_; rintro e w3 ⟨cs, x, b1, T1, rfl, hxR, hR3, hrf3, hsf3, hp3⟩; replace hR3 := Lib.hid hR3; replace hp3 := Lib.hid (And.intro hrf3 (And.intro hsf3 hp3)); clear hrf3 hsf3) | (go_at_call 29; refine (HH.out.2.2.2.2.2.2.2 _ _ _ _ hxR).mono ?_; rintro e w4 ⟨cs4, rfl, hx4, hb4⟩; obtain ⟨y0, y1, y2, y3, y4, y5, y6, y7, rfl⟩ := (GKc.rep (GKc.rep (GLc.rep d) 3 d) 6 d).form _ _ _ _ hx4; have hg4 : GRes w.heap.size w4 := (HT.out.2.2.2.rf hp3.out.1 hrN).rf (Rf.ofOld (r := w1.heap.size) hb4) hrN; obtain ⟨o0, o1, o2, o3⟩ := hg4.out; have z0 := hg4.froz 0; have z1 := hg4.froz 1; have z2 := hg4.froz 2; have z3 := hg4.froz 3; have hR4 := hR3.out.keepO hb4; obtain ⟨v5, c0, c1, hTL5⟩ := hR4.cells; obtain ⟨a5, c5, rfl, -⟩ := hTL5; have HX := Lib.hid (And.intro hx4 (And.intro hb4 hg4)); clear hx4 hb4 hg4 hR4))
    obtain ⟨W5, hW5⟩ : ∃ W5, W5 = ((((w4.setCell ⟨w.heap.size, 0, none⟩ (.int .i64 y0)).setCell ⟨w.heap.size, 1, none⟩ (.int .i64 y1)).setCell ⟨w.heap.size, 2, none⟩ (.slice y2 y3 y4)).setCell ⟨w.heap.size, 3, none⟩ (.slice y5 y6 y7)) := ⟨_, rfl⟩
    rw [← hW5]
    have hr5 : Rw w.heap.size #[.int .i64 y0, .int .i64 y1, .slice y2 y3 y4, .slice y5 y6 y7] 45 W5 := by rw [hW5]; exact HX.out.2.2.fin _ _ _ _
    have hs3 := hp3.out.1.bl.size
    have hs1 := HQ.out.2.2
    have hs2 := HT.out.2.1.lt
    have hbw4 : Below w.heap.size w w4 := (HT.out.2.2.1.trans (hp3.out.1.below (by omega) (by omega))).trans (HX.out.2.1.mono (by omega))
    have hbw5 : Below w.heap.size w W5 := by rw [hW5]; exact (((hbw4.setCell (p := ⟨w.heap.size, 0, none⟩) (Nat.le_refl _) _).setCell (p := ⟨w.heap.size, 1, none⟩) (Nat.le_refl _) _).setCell (p := ⟨w.heap.size, 2, none⟩) (Nat.le_refl _) _).setCell (p := ⟨w.heap.size, 3, none⟩) (Nat.le_refl _) _
    have hk5 : ∀ k, k ≠ w.heap.size → W5.heap[k]? = w4.heap[k]? := fun k hk => by rw [hW5]; exact set4_keep _ _ _ _ _ _ _ hk
    have d1 : W5.cell? ⟨w1.heap.size, 1, none⟩ = some (.bool b1) := (World.cell?_of_block (a := ⟨w1.heap.size, 1, none⟩) (hk5 _ hrN)).trans c1
    have d0 : W5.cell? ⟨w1.heap.size, 0, none⟩ = some (.slice a5 T1.length c5) := (World.cell?_of_block (a := ⟨w1.heap.size, 0, none⟩) (hk5 _ hrN)).trans c0
    have hx5 : GMc d (fun k => w3.heap.size ≤ k) W5 [.int .i64 y0, .int .i64 y1, .slice y2 y3 y4, .slice y5 y6 y7] x := (GKc.rep (GKc.rep (GLc.rep d) 3 d) 6 d).keep _ w4 _ _ _ HX.out.1 fun k hk _ => hk5 k (by omega)
    have p0 : W5.cell? ⟨w.heap.size, 0, none⟩ = some (.int .i64 y0) := hr5.cell 0 rfl
    have p1 : W5.cell? ⟨w.heap.size, 1, none⟩ = some (.int .i64 y1) := hr5.cell 1 rfl
    have p2 : W5.cell? ⟨w.heap.size, 2, none⟩ = some (.slice y2 y3 y4) := hr5.cell 2 rfl
    have p3 : W5.cell? ⟨w.heap.size, 3, none⟩ = some (.slice y5 y6 y7) := hr5.cell 3 rfl
    have f0 := hr5.froz 0; have f1 := hr5.froz 1; have f2 := hr5.froz 2; have f3 := hr5.froz 3
    have hfin : ∀ a b c e, Rw w.heap.size #[a, b, c, e] 45 ((((W5.setCell ⟨w.heap.size, 0, none⟩ a).setCell ⟨w.heap.size, 1, none⟩ b).setCell ⟨w.heap.size, 2, none⟩ c).setCell ⟨w.heap.size, 3, none⟩ e) ∧ Below w.heap.size w ((((W5.setCell ⟨w.heap.size, 0, none⟩ a).setCell ⟨w.heap.size, 1, none⟩ b).setCell ⟨w.heap.size, 2, none⟩ c).setCell ⟨w.heap.size, 3, none⟩ e) := fun a b c e =>
      ⟨(((hr5.set 0 a).set 1 b).set 2 c).set 3 e, (((hbw5.setCell (p := ⟨w.heap.size, 0, none⟩) (Nat.le_refl _) _).setCell (p := ⟨w.heap.size, 1, none⟩) (Nat.le_refl _) _).setCell (p := ⟨w.heap.size, 2, none⟩) (Nat.le_refl _) _).setCell (p := ⟨w.heap.size, 3, none⟩) (Nat.le_refl _) _⟩
    have hw3 : w.heap.size < w3.heap.size := by omega
    have HY := Lib.hid (And.intro hfin (And.intro hx5 (And.intro hp3.out.2.2 hw3)))
    clear hfin hx5 hr5 hbw4 hbw5 hk5 hW5 hs3 hs1 hs2 hw3 o0 o1 o2 o3 z0 z1 z2 z3 c0 c1 HX hp3 hR3 HQ HT hxR
    cases b1 with
    | true =>
      go_wp2_with fail
      have hf := HY.out.1 (.int .i64 0) (.int .i64 0) (.slice none 0 0) (.slice none 0 0)
      refine bodyPost_ret_by (results_row_tmp rfl _ _ w.heap.size 45 _ (0, 0) _ rfl hf.1 Tryz.underlying45 rfl (by kernel_rfl)) rfl ⟨_, false, rfl, (fun h => by cases h), fun _ x' hx' => ?_, ⟨_, _, _, _, _, _, _, _, rfl⟩, hf.2⟩
      rcases HY.out.2.2.1 with ⟨h, -⟩ | ⟨-, h | h⟩
      · cases h
      · cases h
      · rw [hx'] at h; cases h
    | false =>
      have hX : mpolyP d P = some (x, T1) := by
        rcases HY.out.2.2.1 with ⟨-, -, h⟩ | ⟨h, -⟩
        · exact h
        · cases h
      cases T1 with
      | nil =>
        have HXX := Lib.hid hX; clear hX
        go_wp2_with fail
        have hf := HY.out.1 (.int .i64 y0) (.int .i64 y1) (.slice y2 y3 y4) (.slice y5 y6 y7)
        refine bodyPost_ret_by (results_row_tmp rfl _ _ w.heap.size 45 _ (0, 0) _ rfl hf.1 Tryz.underlying45 rfl (by kernel_rfl)) rfl ⟨_, true, rfl, fun _ => ⟨x, HXX.out, ?_⟩, (fun h => by cases h), ⟨_, _, _, _, _, _, _, _, rfl⟩, hf.2⟩
        exact (GKc.rep (GKc.rep (GLc.rep d) 3 d) 6 d).mono _ _ _ _ _ ((GKc.rep (GKc.rep (GLc.rep d) 3 d) 6 d).keep _ W5 _ _ _ HY.out.2.1 fun k hk _ => set4_keep _ _ _ _ _ _ _ (by have := HY.out.2.2.2; omega)) fun k hk => by have := HY.out.2.2.2; omega
      | cons t T2 =>
        have HXX := Lib.hid hX; clear hX
        go_wp2_with fail
        have hf := HY.out.1 (.int .i64 0) (.int .i64 0) (.slice none 0 0) (.slice none 0 0)
        refine bodyPost_ret_by (results_row_tmp rfl _ _ w.heap.size 45 _ (0, 0) _ rfl hf.1 Tryz.underlying45 rfl (by kernel_rfl)) rfl ⟨_, false, rfl, (fun h => by cases h), fun _ x' hx' => ?_, ⟨_, _, _, _, _, _, _, _, rfl⟩, hf.2⟩
        rw [HXX.out] at hx'
        cases hx'
  · rw [HH.out.2.2.2.1] at ht; cases ht
end Go.Proofs.YtblpcpkkjbkakaaGreatDoor
/- Equal geometries are found to be the same. -/
namespace Go.Proofs.YtblpcpkkjbkakaaGreatDoor
open Go Go.RowKit
set_option linter.unusedVariables false
set_option linter.unusedSimpArgs false

/-- A call that finds two to be the same. -/
def Same (w : World) (e : Ending) (w' : World) : Prop := e = .returned (.bool true) ∧ Below w.heap.size w w'
set_option maxRecDepth 100000 in
set_option maxHeartbeats 4000000 in
theorem sameNums_any (n : Nat) (xs : List Nat) (v1 v2 : Value) (w : World) (hx : xs.length = n) (hn : n ≤ 400004) (h1 : w.ownsRow 0 25 1 v1 n (fcells xs)) (h2 : w.ownsRow 0 25 1 v2 n (fcells xs)) : Calls Tryz.prog 31 #[v1, v2] w (Same w) := by
  obtain ⟨a, c, rfl, hr1⟩ := row_slice h1
  obtain ⟨b, e, rfl, hr2⟩ := row_slice h2
  have hf : ∀ i, i < n → (fcells xs)[i]? = some (.float .f64 (xs.getD i 0)) := fun i hi => by
    unfold fcells
    rw [List.getElem?_map, List.getD_eq_getElem?_getD, List.getElem?_eq_getElem (by omega)]
    rfl
  have hfl : (fcells xs).length = n := by unfold fcells; rw [List.length_map, hx]
  have HP := Lib.hid (And.intro hr1 (And.intro hr2 (And.intro hf hfl)))
  clear h1 h2 hr1 hr2 hf hfl hx
  have h8 := call8
  go_enter Tryz.func31, Tryz.ntmps31
  go_wp2_with fail
  go_loopw [14] (fun i wr => ∃ j : Nat, j ≤ n ∧ i = .int .i64 j ∧ RowKit.Hid (Below w.heap.size w wr)) (fun i _ => n - (intOf i).toNat)
  case atStart => exact ⟨0, Nat.zero_le _, rfl, Lib.hid (Below.refl _ _)⟩
  case round =>
    obtain ⟨j, hj, rfl, hS⟩ := hrel
    by_cases hlt : j < n
    · obtain ⟨g, rfl, hg, -, hc⟩ := HP.out.1 (by omega)
      obtain ⟨g2, rfl, hg2, -, hc2⟩ := HP.out.2.1 (by omega)
      obtain ⟨x, hx⟩ : ∃ x, x = xs.getD j 0 := ⟨_, rfl⟩
      have c0 : wr.cell? ⟨g, j, none⟩ = some (.float .f64 x) := by rw [hS.out.cell (p := ⟨g, j, none⟩) hg, hc j (by rw [HP.out.2.2.2]; exact hlt), HP.out.2.2.1 j hlt, hx]
      have c1 : wr.cell? ⟨g2, j, none⟩ = some (.float .f64 x) := by rw [hS.out.cell (p := ⟨g2, j, none⟩) hg2, hc2 j (by rw [HP.out.2.2.2]; exact hlt), HP.out.2.2.1 j hlt, hx]
      clear hc hc2 hx
      have hjn : (j : Int) < (n : Int) := by omega
      go_upto_region 6 with fail
      have HS := Lib.hid hS.out; clear hS
      go_quiet (fail)
      go_wp2_with fail
      go_roundw
      case rel => exact ⟨j + 1, by omega, by go_num, Lib.hid (below_drewN HS.out _)⟩
      case measure => simp [intOf]; omega
    · have HS := Lib.hid hS.out; clear hS
      have hjn : j = n := by omega
      subst hjn
      go_wp2_with fail
      go_ret
      exact ⟨rfl, HS.out⟩
end Go.Proofs.YtblpcpkkjbkakaaGreatDoor
/- Equal geometries are found to be the same: lists of them. -/
namespace Go.Proofs.YtblpcpkkjbkakaaGreatDoor
open Go Go.RowKit
set_option linter.unusedVariables false
set_option linter.unusedSimpArgs false

theorem flat_len4 : ∀ (ys : List (List Value)), (∀ c ∈ ys, c.length = 4) → ys.flatten.length = ys.length * 4
  | [], _ => rfl
  | y :: ys, h => by
    rw [List.flatten_cons, List.length_append, flat_len4 ys (fun c hc => h c (List.mem_cons_of_mem _ hc)), h y (List.mem_cons_self ..), List.length_cons]
    omega
theorem fine19 : (Tryz.f19.name == "runtime.NumGoroutine" || Tryz.f19.body.isNone) = false := by kernel_rfl
set_option maxRecDepth 100000 in
set_option maxHeartbeats 4000000 in
theorem sameGeoms_any {α : Type} {R : (Nat → Prop) → World → List Value → α → Prop} (hRep : Rep R) (l : List α) (ccs1 ccs2 : List (List Value)) (F1 F2 : Nat → Prop) (v1 v2 : Value) (w : World) (hl : l.length ≤ 100000) (h1 : w.ownsRow 0 45 4 v1 l.length ccs1.flatten) (h2 : w.ownsRow 0 45 4 v2 l.length ccs2.flatten)
    (hA1 : All2 (R F1 w) ccs1 l) (hA2 : All2 (R F2 w) ccs2 l)
    (hel : ∀ F1 F2 c1 c2 x W, R F1 W c1 x → R F2 W c2 x → Calls Tryz.prog 19 #[.agg ⟨c1⟩, .agg ⟨c2⟩] W (Same W)) : Calls Tryz.prog 32 #[v1, v2] w (Same w) := by
  obtain ⟨a, c, rfl, hr1⟩ := row_slice h1
  obtain ⟨b, e, rfl, hr2⟩ := row_slice h2
  obtain ⟨n, hn⟩ : ∃ n, n = l.length := ⟨_, rfl⟩
  rw [← hn] at h1 h2 hl hr1 hr2 ⊢
  have hcl1 : ∀ c ∈ ccs1, c.length = 4 := All2.left (fun a b h => hRep.len _ w a b h) hA1
  have hcl2 : ∀ c ∈ ccs2, c.length = 4 := All2.left (fun a b h => hRep.len _ w a b h) hA2
  have hf1 : ccs1.flatten.length = n * 4 := by rw [flat_len4 ccs1 hcl1, All2.length hA1, hn]
  have hf2 : ccs2.flatten.length = n * 4 := by rw [flat_len4 ccs2 hcl2, All2.length hA2, hn]
  have HA := Lib.hid (And.intro hA1 (And.intro hA2 (And.intro hcl1 hcl2)))
  have HP := Lib.hid (And.intro hr1 (And.intro hr2 (And.intro hf1 (And.intro hf2 hn))))
  have HE := Lib.hid hel
  clear h1 h2 hr1 hr2 hf1 hf2 hA1 hA2 hcl1 hcl2 hn hel
  go_enter Tryz.func32, Tryz.ntmps32
  go_wp2_with fail
  go_loopw [14] (fun i wr => ∃ j : Nat, j ≤ n ∧ i = .int .i64 j ∧ RowKit.Hid (Below w.heap.size w wr)) (fun i _ => n - (intOf i).toNat)
  case atStart => exact ⟨0, Nat.zero_le _, rfl, Lib.hid (Below.refl _ _)⟩
  case round =>
    obtain ⟨j, hj, rfl, hS⟩ := hrel
    by_cases hlt : j < n
    · obtain ⟨hr1, hr2, hf1, hf2, hn⟩ := HP.out
      obtain ⟨hA1, hA2, hcl1, hcl2⟩ := HA.out
      obtain ⟨x, hx⟩ : ∃ x, l[j]? = some x := ⟨l[j]'(by rw [← hn]; exact hlt), List.getElem?_eq_getElem _⟩
      obtain ⟨c1, hc1, hR1⟩ := All2.get hA1 j x hx
      obtain ⟨c2, hc2, hR2⟩ := All2.get hA2 j x hx
      obtain ⟨g1, rfl, hg1, -, hce1⟩ := hr1 (by omega)
      obtain ⟨g2, rfl, hg2, -, hce2⟩ := hr2 (by omega)
      obtain ⟨k, d, a1, n1, e1, a2, n2, e2, rfl⟩ := hRep.form _ _ _ _ hR1
      obtain ⟨k', d', a1', n1', e1', a2', n2', e2', rfl⟩ := hRep.form _ _ _ _ hR2
      have hfl1 : ∀ W, Below w.heap.size w W → ∀ i, i < 4 → W.cell? ⟨g1, j * 4 + i, none⟩ = [Value.int .i64 k, .int .i64 d, .slice a1 n1 e1, .slice a2 n2 e2][i]? := fun W hW i h => by
        rw [← flat_get ccs1 hcl1 j i _ h hc1, hW.cell (p := ⟨g1, j * 4 + i, none⟩) hg1]
        exact hce1 _ (by omega)
      have hfl2 : ∀ W, Below w.heap.size w W → ∀ i, i < 4 → W.cell? ⟨g2, j * 4 + i, none⟩ = [Value.int .i64 k', .int .i64 d', .slice a1' n1' e1', .slice a2' n2' e2'][i]? := fun W hW i h => by
        rw [← flat_get ccs2 hcl2 j i _ h hc2, hW.cell (p := ⟨g2, j * 4 + i, none⟩) hg2]
        exact hce2 _ (by omega)
      have p0 := hfl1 wr hS.out 0 (by decide); have p1 := hfl1 wr hS.out 1 (by decide); have p2 := hfl1 wr hS.out 2 (by decide); have p3 := hfl1 wr hS.out 3 (by decide)
      simp only [List.getElem?_cons_zero, List.getElem?_cons_succ, Nat.add_zero] at p0 p1 p2 p3
      have hcall : ∀ W, Below w.heap.size w W → Calls Tryz.prog 19 _ W (Same W) := fun W hW => HE.out _ _ _ _ x W (hRep.keep _ w W _ _ hR1 fun k _ hk => hW.block k hk) (hRep.keep _ w W _ _ hR2 fun k _ hk => hW.block k hk)
      have HC := Lib.hid (And.intro hfl2 hcall)
      clear hr1 hr2 hf1 hf2 hA1 hA2 hcl1 hcl2 hx hc1 hc2 hR1 hR2 hg1 hg2 hce1 hce2 hfl1 hfl2 hcall hn
      have hjn : (j : Int) < (n : Int) := by omega
      go_upto_region 6 with fail
      obtain ⟨W1, hW1⟩ : ∃ W1, W1 = wr.alloc (.cells #[.int .i64 k, .int .i64 d, .slice a1 n1 e1, .slice a2 n2 e2] 45) := ⟨_, rfl⟩
      have r1 : Rw wr.heap.size #[.int .i64 k, .int .i64 d, .slice a1 n1 e1, .slice a2 n2 e2] 45 W1 := by rw [hW1]; exact Rw.new _ _ _
      have hb1 : Below w.heap.size w W1 := by rw [hW1]; exact hS.out.alloc hS.out.size _
      rw [← hW1]
      clear hW1 p0 p1 p2 p3
      have p0 := r1.cell 0 (v := Value.int .i64 k) rfl; have p1 := r1.cell 1 (v := Value.int .i64 d) rfl; have p2 := r1.cell 2 (v := Value.slice a1 n1 e1) rfl; have p3 := r1.cell 3 (v := Value.slice a2 n2 e2) rfl
      have q0 := HC.out.1 W1 hb1 0 (by decide); have q1 := HC.out.1 W1 hb1 1 (by decide); have q2 := HC.out.1 W1 hb1 2 (by decide); have q3 := HC.out.1 W1 hb1 3 (by decide)
      simp only [List.getElem?_cons_zero, List.getElem?_cons_succ, Nat.add_zero] at q0 q1 q2 q3
      have hcl := Lib.hid (HC.out.2 W1.drew hb1.drew)
      have hb1' := Lib.hid hb1.drew
      clear r1 hb1 hS
      go_region_law ((first
        | (refine step_call2 (by rfl) 19 Tryz.f19 Tryz.func19 fine19 _ _ _ (by rfl) _ _ (by rfl) (by rfl) hcl.out ?_; rintro e w6 ⟨rfl, hb6⟩; have hb6' := Lib.hid (hb1'.out.trans (hb6.mono hb1'.out.size)); clear hb6; refine ⟨_, rfl, ?_⟩)))
      all_goals go_wp2_with fail
      all_goals go_roundw
      all_goals first | (exact ⟨j + 1, by omega, by go_num, hb6'⟩) | (simp [intOf]; omega)
    · have HS := Lib.hid hS.out; clear hS
      have hjn : j = n := by omega
      subst hjn
      go_wp2_with fail
      go_ret
      exact ⟨rfl, HS.out⟩
end Go.Proofs.YtblpcpkkjbkakaaGreatDoor
/- Equal geometries are found to be the same. -/
namespace Go.Proofs.YtblpcpkkjbkakaaGreatDoor
open Go Go.RowKit
set_option linter.unusedVariables false
set_option linter.unusedSimpArgs false

set_option maxRecDepth 100000 in
set_option maxHeartbeats 4000000 in
theorem sameGeom_gen (k d : Int) (a1 a2 b1 b2 : Option Addr) (n1 c1 n2 c2 m1 e1 m2 e2 : Nat) (w : World)
    (h31 : ∀ W, Below w.heap.size w W → Calls Tryz.prog 31 #[.slice a1 n1 c1, .slice a2 n2 c2] W (Same W))
    (h32 : ∀ W, Below w.heap.size w W → Calls Tryz.prog 32 #[.slice b1 m1 e1, .slice b2 m2 e2] W (Same W)) :
    Calls Tryz.prog 19 #[.agg ⟨[.int .i64 k, .int .i64 d, .slice a1 n1 c1, .slice b1 m1 e1]⟩, .agg ⟨[.int .i64 k, .int .i64 d, .slice a2 n2 c2, .slice b2 m2 e2]⟩] w (Same w) := by
  obtain ⟨W0, hW0⟩ : ∃ W0, W0 = (w.alloc (.cells ⟨[.int .i64 k, .int .i64 d, .slice a1 n1 c1, .slice b1 m1 e1]⟩ 45)).alloc (.cells ⟨[.int .i64 k, .int .i64 d, .slice a2 n2 c2, .slice b2 m2 e2]⟩ 45) := ⟨_, rfl⟩
  have r0 : Rw w.heap.size #[.int .i64 k, .int .i64 d, .slice a1 n1 c1, .slice b1 m1 e1] 45 W0 := by rw [hW0]; exact (Rw.new _ _ _).alloc _
  have r1 : Rw (w.heap.size + 1) #[.int .i64 k, .int .i64 d, .slice a2 n2 c2, .slice b2 m2 e2] 45 W0 := by rw [hW0]; exact heap_new2 _ _ _
  have hb0 : Below w.heap.size w W0 := by rw [hW0]; exact below2 _ _ _
  have hs0 : W0.heap.size = w.heap.size + 2 := by rw [hW0]; simp
  have HP := Lib.hid (And.intro r0 (And.intro r1 (And.intro hb0 (And.intro hs0 (And.intro h31 h32)))))
  have p0 := r0.cell 0 (v := Value.int .i64 k) rfl; have p1 := r0.cell 1 (v := Value.int .i64 d) rfl; have p2 := r0.cell 2 (v := Value.slice a1 n1 c1) rfl; have p3 := r0.cell 3 (v := Value.slice b1 m1 e1) rfl
  have q0 := r1.cell 0 (v := Value.int .i64 k) rfl; have q1 := r1.cell 1 (v := Value.int .i64 d) rfl; have q2 := r1.cell 2 (v := Value.slice a2 n2 c2) rfl; have q3 := r1.cell 3 (v := Value.slice b2 m2 e2) rfl
  clear r0 r1 hb0 hs0 h31 h32
  go_enter Tryz.func19, Tryz.ntmps19
  go_upto_region 1 with fail
  rw [← hW0]
  clear hW0
  go_wp2_with (first
    | (go_at_call 31; refine (HP.out.2.2.2.2.1 _ HP.out.2.2.1).mono ?_; rintro e w3 ⟨rfl, hb3⟩; have r3 := HP.out.1.old hb3 HP.out.1.lt; have r4 := HP.out.2.1.old hb3 HP.out.2.1.lt; have d3 := r3.cell 3 (v := Value.slice b1 m1 e1) rfl; have f3 := r4.cell 3 (v := Value.slice b2 m2 e2) rfl; clear r3 r4; replace hb3 := Lib.hid (HP.out.2.2.1.trans (hb3.mono HP.out.2.2.1.size)))
    | (go_at_call 32; refine (HP.out.2.2.2.2.2 _ hb3.out).mono ?_; rintro e w4 ⟨rfl, hb4⟩; replace hb4 := Lib.hid (hb3.out.trans (hb4.mono hb3.out.size))))
  all_goals go_ret
  all_goals exact ⟨rfl, hb4.out⟩
theorem Rep.none : Rep (fun (_ : Nat → Prop) (_ : World) (_ : List Value) (_ : Unit) => False) where
  len := by rintro F w cs x ⟨⟩
  one := by rintro F w cs x ⟨⟩
  keep := by rintro F w w' cs x ⟨⟩
  nar := by rintro F w cs x ⟨⟩
  mono := by rintro F F' w cs x ⟨⟩
  form := by rintro F w cs x ⟨⟩
theorem same2 (d : Nat) (hd : d < 4) (F1 F2 : Nat → Prop) (c1 c2 : List Value) (xs : List Nat) (w : World) (h1 : GLc d F1 w c1 xs) (h2 : GLc d F2 w c2 xs) : Calls Tryz.prog 19 #[.agg ⟨c1⟩, .agg ⟨c2⟩] w (Same w) := by
  obtain ⟨v1, rfl, o1, -, p, hp, hl⟩ := h1
  obtain ⟨v2, rfl, o2, -, -⟩ := h2
  have hw : wid d ≤ 4 := by unfold wid; omega
  have hl2 : xs.length ≤ 400004 := by rw [hl]; exact Nat.le_trans (Nat.mul_le_mul hp hw) (by decide)
  obtain ⟨a1, n1, e1, rfl⟩ := ownsRow_slice o1
  obtain ⟨a2, n2, e2, rfl⟩ := ownsRow_slice o2
  refine sameGeom_gen _ _ _ _ _ _ _ _ _ _ _ _ _ _ w (fun W hW => sameNums_any _ xs _ _ W rfl hl2 (ownsRow_keep o1 fun k _ hk => hW.block k hk) (ownsRow_keep o2 fun k _ hk => hW.block k hk)) fun W hW => ?_
  exact sameGeoms_any Rep.none [] [] [] (fun _ => True) (fun _ => True) _ _ W (by simp) (World.ownsRow_nil _ _ _ _) (World.ownsRow_nil _ _ _ _) trivial trivial fun F1 F2 c1 c2 x W h _ => h.elim
theorem sameK {α : Type} {R : (Nat → Prop) → World → List Value → α → Prop} (hRep : Rep R) (hel : ∀ F1 F2 c1 c2 x W, R F1 W c1 x → R F2 W c2 x → Calls Tryz.prog 19 #[.agg ⟨c1⟩, .agg ⟨c2⟩] W (Same W)) (kk d : Nat) (F1 F2 : Nat → Prop) (c1 c2 : List Value) (l : List α) (w : World) (h1 : GKc R kk d F1 w c1 l) (h2 : GKc R kk d F2 w c2 l) : Calls Tryz.prog 19 #[.agg ⟨c1⟩, .agg ⟨c2⟩] w (Same w) := by
  obtain ⟨v1, ccs1, rfl, o1, -, A1, hll⟩ := h1
  obtain ⟨v2, ccs2, rfl, o2, -, A2, -⟩ := h2
  obtain ⟨a1, n1, e1, rfl⟩ := ownsRow_slice o1
  obtain ⟨a2, n2, e2, rfl⟩ := ownsRow_slice o2
  refine sameGeom_gen _ _ _ _ _ _ _ _ _ _ _ _ _ _ w (fun W hW => sameNums_any 0 [] _ _ W rfl (by omega) (World.ownsRow_nil _ _ _ _) (World.ownsRow_nil _ _ _ _)) fun W hW => ?_
  exact sameGeoms_any hRep l ccs1 ccs2 F1 F2 _ _ W hll (ownsRow_keep o1 fun k _ hk => hW.block k hk) (ownsRow_keep o2 fun k _ hk => hW.block k hk) (All2.imp (fun c x hx => hRep.keep _ _ _ _ _ hx fun k _ hk => hW.block k hk) A1) (All2.imp (fun c x hx => hRep.keep _ _ _ _ _ hx fun k _ hk => hW.block k hk) A2) hel
theorem same6 (d : Nat) (hd : d < 4) (F1 F2 : Nat → Prop) (c1 c2 : List Value) (l : List (List (List Nat))) (w : World) (h1 : GMc d F1 w c1 l) (h2 : GMc d F2 w c2 l) : Calls Tryz.prog 19 #[.agg ⟨c1⟩, .agg ⟨c2⟩] w (Same w) :=
  sameK (GKc.rep (GLc.rep d) 3 d) (fun F1 F2 c1 c2 x W h1 h2 => sameK (GLc.rep d) (fun F1 F2 c1 c2 x W h1 h2 => same2 d hd F1 F2 c1 c2 x W h1 h2) 3 d F1 F2 c1 c2 x W h1 h2) 6 d F1 F2 c1 c2 l w h1 h2
end Go.Proofs.YtblpcpkkjbkakaaGreatDoor
