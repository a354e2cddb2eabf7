/- Lemmas towards the seat's laws: 6 texts joined. -/
import Derived.Test.YtblpcpkkjbkakaaGreatDoorY48
import Derived.Laws.CopyRow
import Derived.Laws.CopyOwn
import Derived.Test.YtblpcpkkjbkakaaGreatDoorY47
/- A polygon's rings, copied. -/
namespace Go.Proofs.YtblpcpkkjbkakaaGreatDoor
open Go Go.RowKit
set_option linter.unusedVariables false
set_option linter.unusedSimpArgs false

/-- A copy of whole rows of one length. -/
theorem run_copy_rowN {P : Program} (w : World) (dT sT ty elem : TypeId) (g n : Nat) (dCap : Nat) (a : Addr) (sCap : Nat) (cur : Array Value) (t : TypeId) (cs : List Value) (i : TypeInfo)
    (hu : P.underlying dT = some (.slice elem)) (hi : P.info? elem = some i) (hg : w.heap[g]? = some (.cells cur t (0, 0))) (hn : cs.length = n * i.size)
    (hsrc : ∀ j v, cs[j]? = some v → w.cell? (a.add j) = some v) (hfit : cs.length ≤ cur.size) (h1 : ∀ v ∈ cs, v.oneCell' = true) :
    (Builtin.copy_ #[dT, sT] ty #[.slice (some ⟨g, 0, none⟩) n dCap, .slice (some a) n sCap]).run P w =
      .ok (goInt n) (w.setRow g (cs ++ cur.toList.drop cs.length).toArray) := by
  have hl := run_loadCells_list (P := P) w a cs hsrc
  have hst := run_storeCells_at P g 0 t cs 0 cur w hg (by simpa using hfit) h1
  simp only [Nat.zero_add, List.take_zero, List.nil_append] at hst
  rw [hn] at hl
  simp [Builtin.copy_, run_underlying hu, Builtin.lenOf, Builtin.firstCells, sizeOf, typeInfo, hi, hl, hst]
def PdPost {α : Type} (R : (Nat → Prop) → World → List Value → α → Prop) (e : Nat) (F : Nat → Prop) (l : List α) (w : World) (en : Ending) (w' : World) : Prop :=
  ∃ a n c, en = .returned (.slice a n c) ∧ RowS R e (fun k => w.heap.size ≤ k ∨ (F k ∧ k < w.heap.size)) w' (.slice a n c) l ∧ (∀ k, (Value.slice a n c).ownBlock = some k → w.heap.size ≤ k) ∧ Below w.heap.size w w'
set_option maxRecDepth 100000 in
set_option maxHeartbeats 4000000 in
theorem dumpRings_any (d d0 : Nat) (F : Nat → Prop) (v : Value) (l : List (List Nat)) (w : World) (h : RowS (LSc d) 126 F w v l) :
    Calls Tryz.prog 62 #[.agg #[v, .int .u8 d0]] w (PdPost (LSc d) 126 F l w) := by
  obtain ⟨i0, hi, hz0, hz1, hz2⟩ := info_parts info126
  obtain ⟨ccs, hown, hFv, hA, hll⟩ := h
  obtain ⟨a, c, rfl, hrow⟩ := row_slice hown
  have hcl : ∀ c ∈ ccs, c.length = 2 := All2.left (fun a b h => (LSc.rep d).len F w a b h) hA
  have hlen : ccs.length = l.length := All2.length hA
  have hone : ∀ u ∈ ccs.flatten, u.oneCell' = true := by
    intro u hu
    obtain ⟨c, hc, huc⟩ := List.mem_flatten.1 hu
    exact All2.left (P := fun c => ∀ u ∈ c, u.oneCell' = true) (fun a b h => (LSc.rep d).one F w a b h) hA c hc u huc
  have hf2 : ccs.flatten.length = l.length * 2 := by rw [flat_len2 ccs hcl, hlen]
  obtain ⟨n, hn⟩ : ∃ n, n = l.length := ⟨_, rfl⟩
  rw [← hn] at hll hrow hf2 ⊢
  obtain ⟨W0, hW0⟩ : ∃ W0, W0 = w.alloc (.cells #[.slice a n c, .int .u8 d0] 81) := ⟨_, rfl⟩
  have hbW : Below w.heap.size w W0 := by rw [hW0]; exact (Below.refl _ _).alloc (Nat.le_refl _) _
  have r0 : Rw w.heap.size #[.slice a n c, .int .u8 d0] 81 W0 := by rw [hW0]; exact Rw.new _ _ _
  have hs0 : W0.heap.size = w.heap.size + 1 := by rw [hW0]; simp
  obtain ⟨W1, hmk, hown1, hg1⟩ := run_make_full (P := Tryz.prog) W0 W0.heap.size 79 126 i0 _ 2 Tryz.underlying79 hi hz0 hz1 .i64 .i64 n (by rw [hz2]; omega) (by unfold maxLen; omega) (Nat.le_refl _)
  have hk1 : ∀ k, k < W0.heap.size → W1.heap[k]? = W0.heap[k]? := fun k hk => hg1.block k hk (fun e => by cases e)
  have hbW1 : Below w.heap.size w W1 := hbW.grown hg1 (by omega) (fun _ e => by cases e)
  have q0 : W0.cell? ⟨w.heap.size, 0, none⟩ = some (.slice a n c) := r0.cell 0 rfl
  have q1 : W1.cell? ⟨w.heap.size, 0, none⟩ = some (.slice a n c) := (r0.kp (hk1 _ (by omega))).cell 0 rfl
  obtain ⟨g0, hg0⟩ : ∃ g0, g0 = W0.heap.size := ⟨_, rfl⟩
  rw [← hg0] at hmk hown1
  -- the copy
  have hcp : ∃ w2, (Builtin.copy_ #[79, 79] 3 #[.slice (some ⟨g0, 0, none⟩) n n, .slice a n c]).run Tryz.prog W1 = .ok (goInt n) w2 ∧ w2.ownsRow g0 126 2 (.slice (some ⟨g0, 0, none⟩) n n) n ccs.flatten ∧ Below w.heap.size w w2 := by
    obtain ⟨cur, hcur, hcs⟩ : ∃ cur, W1.heap[g0]? = some (.cells cur 126 (0, 0)) ∧ cur.size = n * 2 := by
      rcases hown1.2 with ⟨h1, -⟩ | ⟨g', cap', cur, h1, -, hh, hnc, -, hcs, -⟩
      · cases h1
      · cases h1; exact ⟨cur, hh, hcs⟩
    have hrow2 : ∀ w2 : World, w2.heap[g0]? = some (.cells ccs.flatten.toArray 126 (0, 0)) → w2.ownsRow g0 126 2 (.slice (some ⟨g0, 0, none⟩) n n) n ccs.flatten := fun w2 h2 =>
      ⟨by rw [hf2], .inr ⟨g0, n, _, rfl, Nat.le_refl _, h2, Nat.le_refl _, by unfold maxLen; omega, by rw [List.size_toArray]; exact hf2, List.take_of_length_le (by rw [List.toList_toArray]; omega)⟩⟩
    cases a with
    | none =>
      have hn0 : n = 0 := by
        apply Nat.eq_zero_of_not_pos
        intro h0
        obtain ⟨g, h1, -⟩ := hrow h0
        cases h1
      subst hn0
      have hc0 : c = 0 := by
        rcases hown.2 with ⟨h1, -⟩ | ⟨g', cap', cur', h1, -⟩
        · simp only [Value.slice.injEq] at h1; exact h1.2.2
        · simp at h1
      subst hc0
      refine ⟨W1, run_copy_nil Tryz.prog W1 79 79 3 126 _ 0 0 Tryz.underlying79 (by rw [hi]; rfl), ?_, hbW1⟩
      have e : ccs.flatten = [] := List.eq_nil_of_length_eq_zero (by omega)
      refine hrow2 W1 ?_
      rw [e, hcur]
      have : cur = #[] := Array.eq_empty_of_size_eq_zero (by omega)
      rw [this]
    | some ad =>
      have hsrc : ∀ j v, ccs.flatten[j]? = some v → W1.cell? (ad.add j) = some v := by
        intro j v hj
        have hjl := lt_of_get' hj
        obtain ⟨g, h1, h2, -, h3⟩ := hrow (by omega)
        cases h1
        rw [show (⟨g, 0, none⟩ : Addr).add j = ⟨g, j, none⟩ by unfold Addr.add; split <;> simp_all, hbW1.cell (p := ⟨g, j, none⟩) h2, h3 j hjl, hj]
      have hr := run_copy_rowN (P := Tryz.prog) W1 79 79 3 126 g0 n n ad c cur 126 ccs.flatten i0 Tryz.underlying79 hi hcur (by rw [hz1, hf2]) hsrc (by omega) hone
      refine ⟨_, hr, hrow2 _ ?_, below_setRow hbW1 (by omega) _⟩
      have e : cur.toList.drop ccs.flatten.length = [] := List.drop_eq_nil_of_le (by rw [Array.length_toList, hcs, hf2]; exact Nat.le_refl _)
      rw [e, List.append_nil]
      exact setRow_heap W1 g0 _ _ 126 _ hcur
  obtain ⟨w2, hrun, hown2, hb2⟩ := hcp
  have HQ := Lib.hid (And.intro hown2 (And.intro hb2 (And.intro hA (And.intro hn (And.intro hll (And.intro hg0 hs0))))))
  have HRN := Lib.hid hrun
  clear hown2 hb2 hA hn hll hrun hown1 hg1 hk1 hbW1 hbW r0 hown hrow hcl hlen hone hf2 hFv
  go_enter Tryz.func62, Tryz.ntmps62
  go_upto_region 1 with fail
  rw [← hW0]
  clear hW0 hg0 hs0
  go_upto_region 2 with fail
  clear hmk q0
  have hrun := HRN.out
  go_wp2_with fail
  go_ret
  obtain ⟨r1, r2, r3, r4, r5, r6, r7⟩ := HQ.out
  refine ⟨_, _, _, rfl, ⟨ccs, by rw [← r4]; exact ownsRow_zero r1, fun k hk => ?_, All2.imp (fun c y hcy => ?_) r3, by omega⟩, fun k hk => ?_, r2⟩
  · have : g0 = k := by simpa [Value.ownBlock] using hk
    left; omega
  · exact (LSc.rep d).mono _ _ _ _ _ ((LSc.rep d).keep _ w _ _ _ ((LSc.rep d).nar _ _ _ _ hcy) fun k o hk ho _ => (r2.block k hk.2).trans ho) fun k hk => .inr hk
  · have : g0 = k := by simpa [Value.ownBlock] using hk
    omega
end Go.Proofs.YtblpcpkkjbkakaaGreatDoor
/- Polygons and several of them as plain data. -/
namespace Go.Proofs.YtblpcpkkjbkakaaGreatDoor
open Go Go.RowKit
set_option linter.unusedVariables false
set_option linter.unusedSimpArgs false

/-- A plain geometry whose parts are added one by one. -/
def LpM {α : Type} (R : (Nat → Prop) → World → List Value → α → Prop) (N M : Nat) (t : TypeId) (cs : Array Value) (kk d : Nat) (l : List α) (vK : Value) (w wr : World) : Prop :=
  ∃ ccs, F4 N M t cs kk d (.slice none 0 0) vK w wr ∧ wr.ownsRow 0 45 4 vK l.length ccs.flatten ∧ (∀ g, vK.ownBlock = some g → M + 1 ≤ g) ∧ All2 (R (Fp (M + 1) wr.heap.size vK) wr) ccs l
theorem LpM.old {α : Type} {R : (Nat → Prop) → World → List Value → α → Prop} (hRep : Rep R) {N M : Nat} {t : TypeId} {cs : Array Value} {kk d : Nat} {l : List α} {vK : Value} {w wr w' : World} (h : LpM R N M t cs kk d l vK w wr) (hb : Below wr.heap.size wr w') : LpM R N M t cs kk d l vK w w' := by
  obtain ⟨ccs, h1, h2, h3, h4⟩ := h
  refine ⟨ccs, h1.old hb, ownsRow_keep h2 fun k _ hl => hb.block k hl, h3, All2.imp (fun c y hcy => ?_) h4⟩
  have hs := hb.size
  exact hRep.mono _ _ _ _ _ (hRep.keep _ wr w' _ _ hcy fun k _ hl => hb.block k hl) fun k hk => ⟨hk.1, by have := hk.2.1; omega, hk.2.2⟩
theorem LpM.mk {α : Type} {R : (Nat → Prop) → World → List Value → α → Prop} (hRep : Rep R) {N M : Nat} {t : TypeId} {bs : Array Value} {kk d : Nat} {l : List α} {vK : Value} {w wr w3 w4 : World} {x : α} {cs : List Value} {g3 cap : Nat} {ccs : List (List Value)}
    (hF : F4 N M t bs kk d (.slice none 0 0) vK w wr) (hownK : wr.ownsRow 0 45 4 vK l.length ccs.flatten) (hvb : ∀ g, vK.ownBlock = some g → M + 1 ≤ g) (hA : All2 (R (Fp (M + 1) wr.heap.size vK) wr) ccs l)
    (hb3 : Below wr.heap.size wr w3) (hx : R (fun k => wr.heap.size ≤ k) w3 cs x)
    (hown : w4.ownsRow 0 45 4 (.slice (some ⟨g3, 0, none⟩) (l.length + 1) cap) (l.length + 1) (ccs.flatten ++ cs)) (hg4 : (w3.alloc (.cells ⟨cs⟩ 45)).grownBy w4 vK.ownBlock) (hat : vK.ownBlock = some g3 ∨ g3 = w3.heap.size + 1) :
    LpM R N M t bs kk d (l ++ [x]) (.slice (some ⟨g3, 0, none⟩) (l.length + 1) cap) w (w4.setCell ⟨M, 3, none⟩ (.slice (some ⟨g3, 0, none⟩) (l.length + 1) cap)) := by
  have hd : DFr M w4 (w4.setCell ⟨M, 3, none⟩ (.slice (some ⟨g3, 0, none⟩) (l.length + 1) cap)) := (DFr.refl _ _).set _ _
  have hms := hF.rm.lt
  have hNM := hF.lt
  have hsz3 := hb3.size
  have hal : (w3.alloc (.cells ⟨cs⟩ 45)).heap.size = w3.heap.size + 1 := by simp
  have hsz4 := hg4.size
  rw [hal] at hsz4
  have hk3 : ∀ k, k < w3.heap.size → vK.ownBlock ≠ some k → w4.heap[k]? = w3.heap[k]? := fun k hk hne => (hg4.block k (by omega) (fun e => hne e.symm)).trans (Below.heap_alloc _ _ _ hk)
  have hvlt : ∀ g, vK.ownBlock = some g → g < wr.heap.size := fun g hg => (hownK.lt g hg).2
  have hg3 : M + 1 ≤ g3 := by
    rcases hat with h | h
    · exact hvb _ h
    · omega
  have hgg : ∀ k, vK.ownBlock ≠ some k → k < w3.heap.size → k ≠ g3 := by
    intro k h1 h2
    rcases hat with h | h
    · intro e; rw [e] at h1; exact h1 h
    · omega
  have hs5 : (w4.setCell ⟨M, 3, none⟩ (.slice (some ⟨g3, 0, none⟩) (l.length + 1) cap)).heap.size = w4.heap.size := hd.2.2
  have hob : (Value.slice (some ⟨g3, 0, none⟩) (l.length + 1) cap).ownBlock = some g3 := rfl
  have hF3 := hF.old hb3
  have hF4 : F4 N M t bs kk d (.slice none 0 0) vK w w4 :=
    hF3.kp (fun k hk hl => hk3 k hl fun e => by have := hvb _ e; omega) ((hF3.bl.alloc (Nat.le_of_lt hF3.rb.lt) _).grown hg4 (by rw [hal]; have := hF3.rb.lt; omega) (fun k hk => by have := hvb _ hk; omega))
  refine ⟨ccs ++ [cs], hF4.set3 _, ?_, fun g hg => ?_, All2.snoc ?_ (All2.imp (fun c y hcy => ?_) hA)⟩
  · rw [List.length_append, List.length_singleton]
    refine ownsRow_keep ?_ fun k hk _ => hd.1 k ?_
    · simpa using hown
    · have : g3 = k := by simpa [Value.ownBlock] using hk
      omega
  · have : g3 = g := by simpa [Value.ownBlock] using hg
    omega
  · refine hRep.mono _ _ _ _ _ (hRep.keep _ w3 _ _ _ (hRep.nar _ _ _ _ hx) fun k hk _ => (hd.1 k (by omega)).trans (hk3 k hk.2 (fun e => by have := hvlt _ e; omega))) fun k hk => ?_
    refine ⟨by omega, by rw [hs5]; omega, ?_⟩
    rw [hob]
    intro e
    exact hgg k (fun e => by have := hvlt _ e; omega) hk.2 (Option.some.inj e).symm
  · refine hRep.mono _ _ _ _ _ (hRep.keep _ wr _ _ _ hcy fun k hk _ => (hd.1 k (by have := hk.1; omega)).trans ((hk3 k (by have := hk.2.1; omega) hk.2.2).trans (hb3.block k hk.2.1))) fun k hk => ?_
    refine ⟨hk.1, by rw [hs5]; have := hk.2.1; omega, ?_⟩
    rw [hob]
    intro e
    exact hgg k hk.2.2 (by have := hk.2.1; omega) (Option.some.inj e).symm
theorem LpM.done {α : Type} {R : (Nat → Prop) → World → List Value → α → Prop} (hRep : Rep R) {M : Nat} {t : TypeId} {cs : Array Value} {kk d : Nat} {l : List α} {vK : Value} {w wr : World} (hll : l.length ≤ 100000) (h : LpM R w.heap.size M t cs kk d l vK w wr) :
    Rw (w.heap.size + 1) #[.int .i64 kk, .int .i64 d, .slice none 0 0, vK] 45 ((((wr.setCell ⟨w.heap.size + 1, 0, none⟩ (.int .i64 kk)).setCell ⟨w.heap.size + 1, 1, none⟩ (.int .i64 d)).setCell ⟨w.heap.size + 1, 2, none⟩ (.slice none 0 0)).setCell ⟨w.heap.size + 1, 3, none⟩ vK) ∧
    FrPost (GKc R kk d) l w (.returned (.agg #[.int .i64 kk, .int .i64 d, .slice none 0 0, vK])) ((((wr.setCell ⟨w.heap.size + 1, 0, none⟩ (.int .i64 kk)).setCell ⟨w.heap.size + 1, 1, none⟩ (.int .i64 d)).setCell ⟨w.heap.size + 1, 2, none⟩ (.slice none 0 0)).setCell ⟨w.heap.size + 1, 3, none⟩ vK) := by
  obtain ⟨ccs, h1, h2, h3, h4⟩ := h
  have hNM := h1.lt
  have hfin := h1.fin (.int .i64 kk) (.int .i64 d) (.slice none 0 0) vK
  refine ⟨hfin.1, _, rfl, ⟨_, ccs, rfl, ownsRow_keep h2 fun k hk _ => set4_keep _ _ _ _ _ _ _ (by have := h3 k hk; omega), (fun k hk => by have := h3 k hk; omega), All2.imp (fun c y hcy => ?_) h4, hll⟩, hfin.2⟩
  exact hRep.mono _ _ _ _ _ (hRep.keep _ wr _ _ _ hcy fun k hk _ => set4_keep _ _ _ _ _ _ _ (by have := hk.1; omega)) fun k hk => by have := hk.1; omega
set_option maxRecDepth 100000 in
set_option maxHeartbeats 4000000 in
theorem plainLine_any (d : Nat) (F : Nat → Prop) (cs : List Value) (xs : List Nat) (w : World) (hd : d < 4) (h : LSc d F w cs xs) : Calls Tryz.prog 63 #[.agg ⟨cs⟩] w (FrPost (GLc d) xs w) := by
  obtain ⟨a, n, c, rfl⟩ := h.form
  obtain ⟨W0, hW0⟩ : ∃ W0, W0 = (w.alloc (.cells ⟨[.int .u8 d, .slice a n c]⟩ 126)).alloc (.cells #[.int .i64 0, .int .i64 0, .slice none 0 0, .slice none 0 0] 45) := ⟨_, rfl⟩
  have r1 : Rw (w.heap.size + 1) #[.int .i64 0, .int .i64 0, .slice none 0 0, .slice none 0 0] 45 W0 := by rw [hW0]; exact heap_new2 _ _ _
  have r0 : Rw w.heap.size #[.int .u8 d, .slice a n c] 126 W0 := by rw [hW0]; exact (Rw.new _ _ _).alloc _
  have hb0 : Below w.heap.size w W0 := by rw [hW0]; exact below2 _ _ _
  have hs0 : W0.heap.size = w.heap.size + 2 := by rw [hW0]; simp
  have q0 : W0.cell? ⟨w.heap.size, 0, none⟩ = some (.int .u8 d) := r0.cell 0 rfl
  have q1 : W0.cell? ⟨w.heap.size, 1, none⟩ = some (.slice a n c) := r0.cell 1 rfl
  have hps := fun W (hW : Below w.heap.size w W) => plainSeq_any d F [.int .u8 d, .slice a n c] xs W hd ((LSc.rep d).keep _ w W _ _ h fun k o _ ho _ => (hW.block k (Array.getElem?_eq_some_iff.1 ho).1).trans ho)
  have HP := Lib.hid (And.intro hps (And.intro hb0 (And.intro r1 hs0)))
  clear hps hb0 r1 r0 hs0 h
  go_enter Tryz.func63, Tryz.ntmps63
  go_upto_region 1 with fail
  rw [← hW0]
  clear hW0
  go_wp2_with (first | (go_at_call 84; refine (coords_any d n c a _).mono ?_; rintro e w1 ⟨rfl, hb1⟩; have hbw1 : Below w.heap.size w w1 := HP.out.2.1.trans (hb1.mono HP.out.2.1.size); have hr1 := HP.out.2.2.1.old hb1 HP.out.2.2.1.lt; replace hbw1 := Lib.hid (And.intro hbw1 hr1); clear hb1 hr1) | (go_at_call 83; refine (HP.out.1 _ hbw1.out.1).mono ?_; rintro e w2 ⟨cs2, rfl, hR2, hb2⟩; obtain ⟨y0, y1, y2, y3, y4, y5, y6, y7, rfl⟩ := (GLc.rep d).form _ _ _ _ hR2; have hr2 := hbw1.out.2.old hb2 hbw1.out.2.lt; have o0 := hr2.cell 0 (v := Value.int .i64 0) rfl; have o1 := hr2.cell 1 (v := Value.int .i64 0) rfl; have o2 := hr2.cell 2 (v := Value.slice none 0 0) rfl; have o3 := hr2.cell 3 (v := Value.slice none 0 0) rfl; have z0 := hr2.froz 0; have z1 := hr2.froz 1; have z2 := hr2.froz 2; have z3 := hr2.froz 3; replace hR2 := Lib.hid (And.intro hR2 (And.intro hb2 hr2)); clear hb2 hr2))
  obtain ⟨k1, k2, k3⟩ := hR2.out
  have hlt := hbw1.out.2.lt
  have hbf := hbw1.out.1.trans (k2.mono hbw1.out.1.size)
  refine bodyPost_ret_by (results_cell_row rfl _ _ (w.heap.size + 1) 45 _ (0, 0) _ rfl ((((k3.set 0 _).set 1 _).set 2 _).set 3 _) Tryz.underlying45 rfl (by kernel_rfl)) rfl ⟨_, rfl, ?_, (((hbf.setCell (p := ⟨w.heap.size + 1, 0, none⟩) (by simp) _).setCell (p := ⟨w.heap.size + 1, 1, none⟩) (by simp) _).setCell (p := ⟨w.heap.size + 1, 2, none⟩) (by simp) _).setCell (p := ⟨w.heap.size + 1, 3, none⟩) (by simp) _⟩
  exact (GLc.rep d).mono _ _ _ _ _ ((GLc.rep d).keep _ w2 _ _ _ k1 fun k hk _ => set4_keep _ _ _ _ _ _ _ (by omega)) fun k hk => by omega
end Go.Proofs.YtblpcpkkjbkakaaGreatDoor
/- The parser's reading of several polygons' body. -/
namespace Go.Proofs.YtblpcpkkjbkakaaGreatDoor
open Go Go.RowKit
set_option linter.unusedVariables false
set_option linter.unusedSimpArgs false

/-- The loop's head: a part is expected. -/
def ElRel {α : Type} (f : List Tok → Option (α × List Tok)) (X : Option (List α × List Tok)) (l : List α) (Tj : List Tok) : Prop := ∃ n, Tj.length ≤ n ∧ X = (mny f n Tj).map fun y => (l ++ y.1, y.2)
theorem ElRel.start {α : Type} {f : List Tok → Option (α × List Tok)} {t : Tok} {T1 : List Tok} (ht : t.1 = 40) : ElRel f (bodyP f (t :: T1)) [] T1 := by
  refine ⟨T1.length, Nat.le_refl _, ?_⟩
  rw [bodyP_cons, if_neg (fun e => by rw [ht] at e; exact absurd e.1 (by decide)), if_pos ht]
  cases mny f T1.length T1 <;> simp
theorem ElRel.part {α : Type} {f : List Tok → Option (α × List Tok)} (h0 : f [] = none) {X : Option (List α × List Tok)} {l : List α} {Tj T1 : List Tok} {x : α} (h : ElRel f X l Tj) (hx : f Tj = some (x, T1)) (hs : T1.length ≤ Tj.length) : CtRel f X (l ++ [x]) T1 := by
  obtain ⟨n, hn, hX⟩ := h
  obtain ⟨m, rfl⟩ := mny_pos h0 hn hx
  refine ⟨m, by omega, ?_⟩
  rw [hX, mny_cont hx, Option.map_map]
  congr 1
  funext y
  simp [Function.comp]
theorem ElRel.bad {α : Type} {f : List Tok → Option (α × List Tok)} {X : Option (List α × List Tok)} {l : List α} {Tj : List Tok} (h : ElRel f X l Tj) (hx : f Tj = none) : X = none := by
  obtain ⟨n, hn, hX⟩ := h
  rw [hX, mny_none hx]; rfl
theorem CtRel.elem {α : Type} {f : List Tok → Option (α × List Tok)} {X : Option (List α × List Tok)} {l : List α} {t : Tok} {T2 : List Tok} (h : CtRel f X l (t :: T2)) (ht : t.1 = 44) : ElRel f X l T2 := by
  obtain ⟨n, hn, hX⟩ := h
  simp only [List.length_cons] at hn
  refine ⟨n, by omega, ?_⟩
  rw [hX, contP_cons, if_neg (by rw [ht]; decide), if_pos ht]
set_option maxRecDepth 100000 in
set_option maxHeartbeats 4000000 in
theorem multiForce_empty (d : Nat) (w : World) : Calls Tryz.prog 59 #[.agg #[.slice none 0 0, .int .u8 0], .int .u8 d] w (PgfPost (SKc (LSc d) 126 d) 81 d (fun _ => False) [] w) := by
  obtain ⟨i0, hi, hz0, hz1, hz2⟩ := info_parts info81
  obtain ⟨W0, hW0⟩ : ∃ W0, W0 = (w.alloc (.cells #[.slice none 0 0, .int .u8 0] 53)).alloc (.cells #[.slice none 0 0, .int .u8 0] 53) := ⟨_, rfl⟩
  have hbW : Below w.heap.size w W0 := by rw [hW0]; exact below2 _ _ _
  have r0 : Rw w.heap.size #[.slice none 0 0, .int .u8 0] 53 W0 := by rw [hW0]; exact (Rw.new _ _ _).alloc _
  have r1 : Rw (w.heap.size + 1) #[.slice none 0 0, .int .u8 0] 53 W0 := by rw [hW0]; exact heap_new2 _ _ _
  have hs0 : W0.heap.size = w.heap.size + 2 := by rw [hW0]; simp
  obtain ⟨W1, hmk, hown1, hg1⟩ := run_make_full (P := Tryz.prog) W0 W0.heap.size 50 81 i0 _ 2 Tryz.underlying50 hi hz0 hz1 .i64 .i64 0 (by omega) (by unfold maxLen; omega) (Nat.le_refl _)
  replace hmk : (Instr.makeSlice 50 (.int .i64 0) (.int .i64 0)).run Tryz.prog W0 = .ok (.slice (some ⟨W0.heap.size, 0, none⟩) 0 0) W1 := hmk
  have hk1 : ∀ k, k < W0.heap.size → W1.heap[k]? = W0.heap[k]? := fun k hk => hg1.block k hk (fun e => by cases e)
  have hbW1 : Below w.heap.size w W1 := hbW.grown hg1 (by omega) (fun _ e => by cases e)
  have HM := Lib.hid (And.intro hown1 (And.intro hbW1 (And.intro (r0.kp (hk1 _ (by omega))) (r1.kp (hk1 _ (by omega))))))
  have H0 := Lib.hid (And.intro hW0 hs0)
  have q0 : W0.cell? ⟨w.heap.size, 0, none⟩ = some (.slice none 0 0) := r0.cell 0 rfl
  clear hown1 hg1 hk1 hbW1 hbW r0 r1 hs0
  go_enter Tryz.func59, Tryz.ntmps59
  go_upto_region 1 with fail
  rw [← hW0]
  clear hW0
  go_upto_region 2 with fail
  obtain ⟨g0, hg0⟩ : ∃ g0, g0 = W0.heap.size := ⟨_, rfl⟩
  rw [← hg0] at HM ⊢
  have hgN : g0 = w.heap.size + 2 := by rw [hg0]; exact H0.out.2
  have HGN := Lib.hid hgN; clear hgN
  have q1 : W1.cell? ⟨w.heap.size, 0, none⟩ = some (.slice none 0 0) := HM.out.2.2.1.cell 0 rfl
  have o0 : W1.cell? ⟨w.heap.size + 1, 0, none⟩ = some (.slice none 0 0) := HM.out.2.2.2.cell 0 rfl
  have o1 : W1.cell? ⟨w.heap.size + 1, 1, none⟩ = some (.int .u8 0) := HM.out.2.2.2.cell 1 rfl
  have f0 := HM.out.2.2.2.froz 0
  have f1 := HM.out.2.2.2.froz 1
  clear hmk hg0 q0
  go_wp2_with fail
  go_loopw [14] (fun i wr => i = .int .i64 0 ∧ wr = W1) (fun i _ => 0)
  case atStart => exact ⟨rfl, rfl⟩
  case round =>
    obtain ⟨rfl, rfl⟩ := hrel
    go_wp2_with fail
    obtain ⟨r1, r2, r3, r4⟩ := HM.out
    have hq := (r4.set 0 (.slice (some ⟨g0, 0, none⟩) 0 0)).set 1 (.int .u8 d)
    have hbq := (r2.setCell (p := ⟨w.heap.size + 1, 0, none⟩) (by simp) (.slice (some ⟨g0, 0, none⟩) 0 0)).setCell (p := ⟨w.heap.size + 1, 1, none⟩) (by simp) (.int .u8 d)
    refine bodyPost_ret_by (results_cell_row rfl _ _ (w.heap.size + 1) 53 _ (0, 0) _ rfl hq Tryz.underlying53 rfl (by kernel_rfl)) rfl ⟨_, _, _, rfl, ⟨[], ?_, fun k hk => ?_, trivial, Nat.zero_le _⟩, hbq⟩
    · have hg := HGN.out
      have r1' : wr.ownsRow g0 81 2 (.slice (some ⟨g0, 0, none⟩) 0 0) 0 [] := by
        have e : (madeCells (Value.agg #[Value.slice none 0 0, Value.int IntKind.u8 0]).cells (0 * 2)).toList = [] := by
          rw [show (Value.agg #[Value.slice none 0 0, Value.int IntKind.u8 0]).cells = #[Value.slice none 0 0, Value.int IntKind.u8 0] from rfl, made2]; rfl
        rw [e] at r1
        exact r1
      refine ownsRow_keep (ownsRow_zero r1') fun k hk _ => ?_
      have : g0 = k := by simpa [Value.ownBlock] using hk
      rw [Below.heap_setCell _ _ _ _ (by show k ≠ w.heap.size + 1; omega), Below.heap_setCell _ _ _ _ (by show k ≠ w.heap.size + 1; omega)]
    · have : g0 = k := by simpa [Value.ownBlock] using hk
      have hg := HGN.out
      left; omega
abbrev PGR (d : Nat) : (Nat → Prop) → World → List Value → List (List Nat) → Prop := SKc (LSc d) 126 d
theorem PGR.rep (d : Nat) : Rep2 (PGR d) := SKc.rep (LSc.rep d) 126 d (by decide)
/-- The loop over polygons in the parser. -/
def MpLp (s : ByteArray) (rb B b d : Nat) (T : List Tok) (w : World) (k : Nat) (v : Value) (wx : World) : Prop :=
  ∃ l Tj pj, Tj.length = k ∧ ElRel (polyP d) (bodyP (polyP d) T) l Tj ∧ ParLp (PGR d) 81 (w.heap.size + 1) l v wx ∧ PT s rb B b pj Tj wx ∧ Q2 53 (.slice none 0 0) (.int .u8 0) B b rb w wx ∧ l.length + k ≤ T.length
set_option maxRecDepth 100000 in
set_option maxHeartbeats 4000000 in
theorem mpoly_pt (s : ByteArray) (rb B b p d : Nat) (g gl gp : Nat × Nat) (T : List Tok) (w : World) (hs : s.size ≤ 2000) (hd : d < 4) (h : PT s rb B b p T w) (hG : GlN B g gl gp w) (hT : T.length ≤ 99999) :
    Calls Tryz.prog 33 #[.pointer (some ⟨b, 0, none⟩), .int .u8 d] w (BpPost (SKc (PGR d) 81 d) [.slice none 0 0, .int .u8 0] (mpolyP d T) s rb B b w) := by
  obtain ⟨i0, hi, hz0, hz1, hz2⟩ := info_parts info81
  obtain ⟨hlb1, hlb2, hlb3, hlb4, hlb5⟩ := h.lt
  have hq0 : Q2 53 (.slice none 0 0) (.int .u8 0) B b rb w (w.alloc (.cells #[.slice none 0 0, .int .u8 0] 53)) := Q2.new hlb2 hlb3 (by omega) (by decide)
  have hal : Below w.heap.size w (w.alloc (.cells #[.slice none 0 0, .int .u8 0] 53)) := (Below.refl _ _).alloc (Nat.le_refl _) _
  have hem := empty_pt s rb B b p g gl gp T _ (h.old hal) (hG.keepO hal)
  have HH := Lib.hid (And.intro hq0 (And.intro hem (And.intro hG h.ok)))
  clear h hG hq0 hal hem hlb1 hlb2 hlb3 hlb4 hlb5
  go_enter Tryz.func33, Tryz.ntmps33
  go_upto_region 3 with (go_at_call 56; refine HH.out.2.1.mono ?_; rintro e w1 ⟨x, v, rfl, hk, hfr⟩)
  have hq1 := HH.out.1.step (Fb.ofFr hfr)
  clear hfr
  rcases hk with ⟨rfl, t, T1, hTt, rfl, htx, p1, hpt⟩ | ⟨⟨u, y, rfl⟩, hno⟩
  · have htok := HH.out.2.2.2 t (by rw [hTt]; exact List.mem_cons_self ..)
    have H1 := Lib.hid (And.intro hq1 (And.intro hpt (And.intro hTt htok)))
    have HTX := Lib.hid htx
    clear hq1 hpt hTt htok htx
    rcases HTX.out with he | h40
    · have hb : (t.2 == [40]) = false := by rw [he]; rfl
      have hX : mpolyP d T = some ([], T1) := by rw [H1.out.2.2.1]; exact bodyP_empty (tok_emptyW H1.out.2.2.2 he) he
      have hpf := multiForce_empty d w1
      have HE := Lib.hid (And.intro hX hpf); clear he hX hpf
      go_wp2_with (go_at_call 59; refine HE.out.2.mono ?_; rintro e w2 ⟨a2, n2, c2, rfl, hr2, hb2⟩; obtain ⟨k0, k1, f0, f1⟩ := (H1.out.1.step (Fb.old (Fb.refl _ _ _ _ _) hb2 (by have := H1.out.1.hB; omega) H1.out.1.lt)).facts; replace hr2 := Lib.hid (And.intro hr2 hb2); clear hb2)
      obtain ⟨q1, q2⟩ := pg_fin (PGR.rep d) (d := d) (zs := [.slice none 0 0, .int .u8 0]) H1.out.1 (hr2.out.1.mono (PGR.rep d) (fun k hk => by have := H1.out.1.lt; rcases hk with h | h; omega; exact h.1.elim)) hr2.out.2 H1.out.2.1 HE.out.1
      refine bodyPost_ret_by (results_row_tmp (u := 5) rfl _ _ w.heap.size 53 _ (0, 0) _ rfl q1 Tryz.underlying53 rfl (by kernel_rfl)) rfl ?_
      exact q2
    · have hb : (t.2 == [40]) = true := by rw [h40]; rfl
      have h4 : t.1 = 40 := tok_text H1.out.2.2.2 (.inl rfl) h40
      have hlp : MpLp s rb B b d T w T1.length (.slice none 0 0) w1 := by
        refine ⟨[], T1, p1, rfl, ?_, ParLp.nil _ _ _ _, H1.out.2.1, H1.out.1, ?_⟩
        · rw [H1.out.2.2.1]; exact ElRel.start h4
        · rw [H1.out.2.2.1]; simp
      have HL := Lib.hid hlp
      clear hlp h40 h4
      generalize T1.length = n0 at HL
      go_wp2_with fail
      go_loopg [6, 9] n0 (fun k v z wr => (∃ zi : Int, z = .int .i64 zi) ∧ RowKit.Hid (MpLp s rb B b d T w k v wr))
      case atStart => exact ⟨⟨0, rfl⟩, HL⟩
      case round =>
        obtain ⟨⟨zi, rfl⟩, hrel⟩ := hrel
        obtain ⟨l, Tj, pj, hk, hel, hpar, hpt, hq, hlk⟩ := hrel.out
        have hG2 := HH.out.2.2.1.keep hq.fb.1
        have hpp := poly_pt s rb B b pj d g gl gp Tj wr hs hd hpt hG2 (by omega)
        have HS := Lib.hid (And.intro hk (And.intro hel (And.intro hpar (And.intro hq (And.intro hlk hpt.ok)))))
        have HC := Lib.hid hpp
        clear hk hel hpar hpt hq hlk hG2 hpp hrel
        go_upto_region 9 with (go_at_call 57; refine HC.out.mono ?_; rintro e w6 ⟨cs, err, rfl, hk, hfr6⟩; rcases hk with ⟨x6, T6, hX6, rfl, hR6, p6, hpt6⟩ | ⟨hX6, rfl, u, y, rfl⟩; obtain ⟨a7, n7, c7, rfl⟩ := hR6.form)
        · have hll := Loc.len (polyP_loc d) HS.out.2.2.2.2.2 hX6
          have hq6 := HS.out.2.2.2.1.step (Fb.ofFr hfr6)
          have hvm : ∀ g, u6.ownBlock = some g → g < wr.heap.size := fun g hg => by
            obtain ⟨ccs0, ho, -⟩ := HS.out.2.2.1
            exact (ho.lt g hg).2
          have hbb := HS.out.2.2.2.1.hb; have hrb := HS.out.2.2.2.1.hr; have hBb := HS.out.2.2.2.1.hB
          have hls := HS.out.2.2.2.1.lt
          obtain ⟨W7, hW7⟩ : ∃ W7, W7 = w6.alloc (.cells #[.slice a7 n7 c7, .int .u8 d] 81) := ⟨_, rfl⟩
          have hal7 : Below w6.heap.size w6 W7 := by rw [hW7]; exact (Below.refl _ _).alloc (Nat.le_refl _) _
          have hM7 : Rw w6.heap.size #[.slice a7 n7 c7, .int .u8 d] 81 W7 := by rw [hW7]; exact Rw.new _ _ _
          rw [← hW7]
          clear hW7
          have m0 : W7.cell? ⟨w6.heap.size, 0, none⟩ = some (.slice a7 n7 c7) := hM7.cell 0 rfl
          have m1 : W7.cell? ⟨w6.heap.size, 1, none⟩ = some (.int .u8 d) := hM7.cell 1 rfl
          obtain ⟨ccs, hown, hA⟩ := (HS.out.2.2.1.fr (PGR.rep d) hfr6 (by omega) (by omega) (by decide)).old (PGR.rep d) hal7
          have hx7 := (PGR.rep d).keep _ w6 W7 _ _ hR6 fun k o _ ho _ => (hal7.block k (Array.getElem?_eq_some_iff.1 ho).1).trans ho
          have hq7 := hq6.step (Fb.old (Fb.refl _ _ _ _ _) hal7 (by omega) hq6.lt)
          have hpt7 := hpt6.old hal7
          have hct7 := ElRel.part (polyP_nil d) HS.out.2.1 hX6 hll.1
          have hlk7 : l.length + T6.length ≤ T.length := by have h1 := HS.out.2.2.2.2.1; have h2 := HS.out.1; have h4 := hll.1; omega
          have hl7 : l.length ≤ 99999 := by omega
          have H7 := Lib.hid (And.intro hown (And.intro hA (And.intro hx7 (And.intro hvm (And.intro hpt7 (And.intro hq7 (And.intro hct7 (And.intro hlk7 (And.intro hll.1 (And.intro hls (And.intro hbb (And.intro hrb hBb))))))))))))
          clear hown hA hx7 hvm hpt7 hq7 hct7 hlk7 hll hM7 hal7 hq6 hfr6 hpt6 hR6 hX6 hls hbb hrb hBb
          go_upto_region 12 with (at_builtin; refine wpList_append_lies _ rfl _ _ 50 rfl (w.heap.size + 1) 81 i0 _ 2 32 Tryz.underlying50 hi hz0 hz1 hz2 rfl (by decide) u6 l.length ccs.flatten rfl (H7.out.1.alloc _) ⟨W7.heap.size, 0, none⟩ 1 1 [_, _] rfl rfl (cells_two' _ _ _ _ _ rfl) (by intro u hu; simp at hu; rcases hu with rfl | rfl <;> rfl) (by omega) (by unfold maxLen; omega) (by omega) (by have := H7.out.2.2.2.2.2.1.lt; simp; omega) (W7.heap.size + 1) (by simp) ?_; intro g3 cap w8 hown8 hg8 hat8 hlt8)
          obtain ⟨r1, r2, r3, r4, r5, r6, r7, r8, r9, r10, r11, r12, r13⟩ := H7.out
          have hal : Below W7.heap.size W7 (W7.alloc (.cells #[.slice a7 n7 c7, .int .u8 d] 81)) := (Below.refl _ _).alloc (Nat.le_refl _) _
          have hals : (W7.alloc (.cells #[.slice a7 n7 c7, .int .u8 d] 81)).heap.size = W7.heap.size + 1 := by simp
          have hrow : ∀ k, u6.ownBlock = some k → w.heap.size + 1 ≤ k := fun k hk => (r1.lt k hk).1
          have hpar8 := ParLp.app (PGR.rep d) r1 r2 r3 r10 r4 hown8 hg8 hat8
          have hpt8 := (r5.old hal).grown hg8 fun k hk => by
            obtain ⟨cc, fz, hh⟩ := own_typ (r1.alloc (.cells #[.slice a7 n7 c7, .int .u8 d] 81)) hk
            have := hrow k hk
            exact ⟨⟨by omega, by omega⟩, cc, fz, _, hh, by decide⟩
          have hq8 := r6.step (((Fb.refl (w.heap.size + 1) B b rb W7).old hal (by omega) r6.lt).grown hg8 (by omega) (by have := r6.lt; omega) hrow)
          have hcm := comma_pt s rb B b p6 g gl gp T6 w8 hpt8 (HH.out.2.2.1.keep hq8.fb.1)
          have H8 := Lib.hid (And.intro hpar8 (And.intro hpt8.ok (And.intro hq8 hcm)))
          clear r1 r2 r3 r4 r5 r6 r7 r8 r9 r10 r11 r12 r13 hal hals hrow hpar8 hpt8 hq8 hcm hown8 hg8 hat8 hlt8 m0 m1
          go_upto_region 13 with (go_at_call 58; refine H8.out.2.2.2.mono ?_; rintro e w9 ⟨x9, v9, rfl, hk9, hfr9⟩)
          have hq9 := H8.out.2.2.1.step (Fb.ofFr hfr9)
          have hpar9 := H8.out.1.fr (PGR.rep d) hfr9 (by have := hq9.hb; omega) (by have := hq9.hr; omega) (by decide)
          clear hfr9
          rcases hk9 with ⟨rfl, t5, T5, hTt, rfl, htx, p5, hpt5⟩ | ⟨⟨u, y, rfl⟩, hno⟩
          · have htok := H8.out.2.1 t5 (by rw [hTt]; exact List.mem_cons_self ..)
            have HTX := Lib.hid htx
            have H5 := Lib.hid (And.intro hpar9 (And.intro hq9 (And.intro hpt5 (And.intro hTt htok))))
            clear hpar9 hq9 hpt5 hTt htok htx
            have hct := H7.out.2.2.2.2.2.2.1
            rw [H5.out.2.2.2.1] at hct
            have HCT := Lib.hid hct; clear hct
            rcases HTX.out with h41 | h44
            · have hb : (t5.2 == [44]) = false := by rw [h41]; rfl
              have h4 : t5.1 = 41 := tok_text H5.out.2.2.2.2 (.inr (.inl rfl)) h41
              have hX : mpolyP d T = some (l ++ [x6], T5) := CtRel.fin HCT.out h4
              have hrs := H5.out.1.done (PGR.rep d) (by simp; omega)
              have hnm := newMulti_any d (fun k => w.heap.size + 1 ≤ k) _ (l ++ [x6]) w9 hd hrs (by simp)
              have HX := Lib.hid (And.intro hX hnm); clear hX h4 h41 hrs hnm
              have hl0 : ((l.length : Int) + 1 == 0) = false := beq_false_of_ne (by omega)
              go_wp2_with (go_at_call 60; refine HX.out.2.mono ?_; rintro e w2 ⟨a2, n2, c2, rfl, hr2, hb2⟩; obtain ⟨k0, k1, f0, f1⟩ := (H5.out.2.1.step (Fb.old (Fb.refl _ _ _ _ _) hb2 (by have := H5.out.2.1.hB; omega) H5.out.2.1.lt)).facts; replace hr2 := Lib.hid (And.intro hr2 hb2); clear hb2)
              obtain ⟨q1, q2⟩ := pg_fin (PGR.rep d) (d := d) (zs := [.slice none 0 0, .int .u8 0]) H5.out.2.1 (hr2.out.1.mono (PGR.rep d) (fun k hk => by have := H5.out.2.1.lt; rcases hk with h | h; omega; omega)) hr2.out.2 H5.out.2.2.1 HX.out.1
              refine bodyPost_ret_by (results_row_tmp (u := 5) rfl _ _ w.heap.size 53 _ (0, 0) _ rfl q1 Tryz.underlying53 rfl (by kernel_rfl)) rfl ?_
              exact q2
            · have hb : (t5.2 == [44]) = true := by rw [h44]; rfl
              have h4 : t5.1 = 44 := tok_text H5.out.2.2.2.2 (.inr (.inr rfl)) h44
              have hel := CtRel.elem HCT.out h4
              have h6l : T6.length = T5.length + 1 := by rw [H5.out.2.2.2.1]; rfl
              have hlp : MpLp s rb B b d T w T5.length (.slice (some ⟨g3, 0, none⟩) (l.length + 1) cap) w9 := by
                refine ⟨l ++ [x6], T5, p5, rfl, hel, H5.out.1, H5.out.2.2.1, H5.out.2.1, ?_⟩
                have := H7.out.2.2.2.2.2.2.2.1
                simp
                omega
              have HLP := Lib.hid (And.intro hlp h6l); clear hlp h6l hel h4 h44
              go_wp2_with fail
              go_roundg T5.length
              case rel => exact ⟨⟨_, rfl⟩, Lib.hid HLP.out.1⟩
              case measure =>
                have h1 := HLP.out.2
                have h2 := HS.out.1
                have h3 := H7.out.2.2.2.2.2.2.2.2.1
                omega
          · obtain ⟨k0, k1, f0, f1⟩ := hq9.facts
            have H2 := Lib.hid (And.intro hq9 hno); clear hq9 hno hpar9
            go_wp2_with fail
            obtain ⟨q1, q2, q3, q4⟩ := H2.out.1.fin (.slice none 0 0) (.int .u8 0)
            refine bodyPost_ret_by (results_row_tmp rfl _ _ w.heap.size 53 _ (0, 0) _ rfl q1 Tryz.underlying53 rfl (by kernel_rfl)) rfl ⟨_, _, rfl, .inr ⟨CtRel.none H7.out.2.2.2.2.2.2.1 fun t T' hT => ?_, rfl, _, _, rfl⟩, q2⟩
            obtain ⟨n1, n2⟩ := H2.out.2 t T' hT
            have ho := H8.out.2.1 t (by rw [hT]; exact List.mem_cons_self ..)
            exact ⟨fun e => n1 (tok_sign ho e (by decide) (by decide)), fun e => n2 (tok_sign ho e (by decide) (by decide))⟩
        · have hq6 := HS.out.2.2.2.1.step (Fb.ofFr hfr6)
          have hal6 : Below w6.heap.size w6 (w6.alloc (.cells #[.slice none 0 0, .int .u8 0] 81)) := (Below.refl _ _).alloc (Nat.le_refl _) _
          have hq7 := hq6.step (Fb.old (Fb.refl _ _ _ _ _) hal6 (by have := hq6.hB; omega) hq6.lt)
          obtain ⟨W7, hW7⟩ : ∃ W7, W7 = w6.alloc (.cells #[.slice none 0 0, .int .u8 0] 81) := ⟨_, rfl⟩
          rw [← hW7] at hq7 ⊢
          obtain ⟨k0, k1, f0, f1⟩ := hq7.facts
          have H7 := Lib.hid (And.intro hq7 hX6)
          clear hW7 hq7 hX6 hq6 hal6 hfr6
          go_wp2_with fail
          obtain ⟨q1, q2, q3, q4⟩ := H7.out.1.fin (.slice none 0 0) (.int .u8 0)
          refine bodyPost_ret_by (results_row_tmp rfl _ _ w.heap.size 53 _ (0, 0) _ rfl q1 Tryz.underlying53 rfl (by kernel_rfl)) rfl ⟨_, _, rfl, .inr ⟨?_, rfl, _, _, rfl⟩, q2⟩
          exact ElRel.bad HS.out.2.1 H7.out.2
  · obtain ⟨k0, k1, f0, f1⟩ := hq1.facts
    have H2 := Lib.hid (And.intro hq1 hno); clear hq1 hno
    go_wp2_with fail
    obtain ⟨q1, q2, q3, q4⟩ := H2.out.1.fin (.slice none 0 0) (.int .u8 0)
    refine bodyPost_ret_by (results_row_tmp rfl _ _ w.heap.size 53 _ (0, 0) _ rfl q1 Tryz.underlying53 rfl (by kernel_rfl)) rfl ⟨_, _, rfl, .inr ⟨bodyP_not fun t T' hT => ?_, rfl, _, _, rfl⟩, q2⟩
    obtain ⟨n1, n2⟩ := H2.out.2 t T' hT
    exact ⟨n1, fun e => n2 (tok_sign (HH.out.2.2.2 t (by rw [hT]; exact List.mem_cons_self ..)) e (by decide) (by decide))⟩
end Go.Proofs.YtblpcpkkjbkakaaGreatDoor
/- A polygon as plain data. -/
namespace Go.Proofs.YtblpcpkkjbkakaaGreatDoor
open Go Go.RowKit
set_option linter.unusedVariables false
set_option linter.unusedSimpArgs false

theorem fine63 : (Tryz.f63.name == "runtime.NumGoroutine" || Tryz.f63.body.isNone) = false := by kernel_rfl
/-- The loop's frame: what stood ahead of it stands. -/
def Kp (M H : Nat) (w3 wr : World) (v : Value) : Prop := (∀ k, k < H → k ≠ M → wr.heap[k]? = w3.heap[k]?) ∧ (∀ g, v.ownBlock = some g → H ≤ g) ∧ H ≤ wr.heap.size
set_option maxRecDepth 100000 in
set_option maxHeartbeats 4000000 in
theorem plainPoly_any (d : Nat) (F0 : Nat → Prop) (cs : List Value) (l : List (List Nat)) (w : World) (hd : d < 4) (h0 : SKc (LSc d) 126 d F0 w cs l) : Calls Tryz.prog 36 #[.agg ⟨cs⟩] w (FrPost (GPc d) l w) := by
  obtain ⟨i0, hi, hz0, hz1, hz2⟩ := info_parts info45
  have h := (SKc.rep (LSc.rep d) 126 d (by decide)).nar _ _ _ _ h0
  obtain ⟨F, hF⟩ : ∃ F : Nat → Prop, F = fun k => F0 k ∧ k < w.heap.size := ⟨_, rfl⟩
  rw [← hF] at h
  have HFF := Lib.hid hF; clear hF h0
  obtain ⟨a, n, c, rfl⟩ := h.form
  obtain ⟨vR, ccs0, hvR, hown, hFv, hA, hll⟩ := h
  obtain rfl : Value.slice a n c = vR := by simp only [List.cons.injEq, and_true] at hvR; exact hvR
  clear hvR
  have hRS : RowS (LSc d) 126 F w (.slice a n c) l := ⟨ccs0, hown, hFv, hA, hll⟩
  obtain ⟨W0, hW0⟩ : ∃ W0, W0 = (w.alloc (.cells ⟨[.slice a n c, .int .u8 d]⟩ 81)).alloc (.cells #[.int .i64 0, .int .i64 0, .slice none 0 0, .slice none 0 0] 45) := ⟨_, rfl⟩
  have r0 : Rw w.heap.size #[.slice a n c, .int .u8 d] 81 W0 := by rw [hW0]; exact (Rw.new _ _ _).alloc _
  have r1 : Rw (w.heap.size + 1) #[.int .i64 0, .int .i64 0, .slice none 0 0, .slice none 0 0] 45 W0 := by rw [hW0]; exact heap_new2 _ _ _
  have hb0 : Below w.heap.size w W0 := by rw [hW0]; exact below2 _ _ _
  have hs0 : W0.heap.size = w.heap.size + 2 := by rw [hW0]; simp
  have q0 : W0.cell? ⟨w.heap.size, 0, none⟩ = some (.slice a n c) := r0.cell 0 rfl
  have q1 : W0.cell? ⟨w.heap.size, 1, none⟩ = some (.int .u8 d) := r0.cell 1 rfl
  have HR := Lib.hid (And.intro r0 (And.intro r1 (And.intro hb0 (And.intro hs0 hRS))))
  have hcv : IntKind.i64.wrap (d : Int) = d := by rw [IntKind.wrap_i64]; omega
  clear r0 r1 hb0 hs0 hRS hown hFv hA
  have HLL := Lib.hid hll; clear hll
  go_enter Tryz.func36, Tryz.ntmps36
  go_upto_region 1 with fail
  rw [← hW0]
  clear hW0
  go_upto_region 2 with (go_at_call 61; refine (pctype_any d n c a _).mono ?_; rintro e w1 ⟨rfl, hb1⟩; replace hb1 := Lib.hid hb1)
  have hf4 : F4 w.heap.size w1.heap.size 81 #[.slice a n c, .int .u8 d] 3 d (.slice none 0 0) (.slice none 0 0) w (w1.alloc (.cells #[.int .i64 3, .int .i64 d, .slice none 0 0, .slice none 0 0] 45)) := F4.new HR.out.1 HR.out.2.1 HR.out.2.2.1 HR.out.2.2.2.1 hb1.out
  obtain ⟨W2, hW2⟩ : ∃ W2, W2 = w1.alloc (.cells #[.int .i64 3, .int .i64 d, .slice none 0 0, .slice none 0 0] 45) := ⟨_, rfl⟩
  rw [← hW2] at hf4 ⊢
  obtain ⟨M, hM⟩ : ∃ M, M = w1.heap.size := ⟨_, rfl⟩
  rw [← hM] at hf4 ⊢
  have s0 := hf4.rb.cell 0 (v := Value.slice a n c) rfl
  have s1 := hf4.rb.cell 1 (v := Value.int .u8 d) rfl
  have hRS2 : RowS (LSc d) 126 F W2 (.slice a n c) l := by
    obtain ⟨ccs, k1, k2, k3, k4⟩ := HR.out.2.2.2.2
    exact ⟨ccs, ownsRow_keep k1 fun k _ hl => hf4.bl.block k hl, k2, All2.imp (fun c y hcy => (LSc.rep d).keep _ w W2 _ _ hcy fun k o _ ho _ => (hf4.bl.block k (Array.getElem?_eq_some_iff.1 ho).1).trans ho) k3, k4⟩
  have hdr := dumpRings_any d d F (.slice a n c) l W2 hRS2
  have HF := Lib.hid (And.intro hf4 hdr)
  clear hf4 hdr hRS2 hW2 hM hb1 HR q0 q1
  go_wp2_with (go_at_call 62; refine HF.out.2.mono ?_; rintro e w3 ⟨a3, n3, c3, rfl, hr3, hg3, hb3⟩; replace hr3 := Lib.hid (And.intro hr3 (And.intro hb3 hg3)); clear hb3 hg3)
  have hn3 := hr3.out.1.len
  have HN := Lib.hid hn3; clear hn3
  obtain ⟨ccs, k1, k2, k3, k4⟩ := hr3.out.1
  obtain ⟨a3', c3', hva, hrow⟩ := row_slice k1
  obtain ⟨rfl, rfl⟩ : a3 = a3' ∧ c3 = c3' := by simp only [Value.slice.injEq] at hva; exact ⟨hva.1, hva.2.2⟩
  have hcl : ∀ c ∈ ccs, c.length = 2 := All2.left (fun a b h => (LSc.rep d).len _ w3 a b h) k3
  have hlen : ccs.length = l.length := All2.length k3
  have HP := Lib.hid (And.intro k1 (And.intro k3 (And.intro hrow (And.intro hcl hlen))))
  clear k1 k2 k3 k4 hva hrow hcl hlen
  have hMl : M < w3.heap.size := by have := HF.out.1.rm.lt; have := hr3.out.2.1.size; omega
  have hn5 : n3 ≤ 100000 := by rw [HN.out]; exact HLL.out
  go_loopw [13] (fun i wr => ∃ j : Nat, j ≤ n3 ∧ i = .int .i64 j ∧ RowKit.Hid (∃ vK', LpM (GLc d) w.heap.size M 81 #[.slice a n c, .int .u8 d] 3 d (l.take j) vK' w wr ∧ Kp M w3.heap.size w3 wr vK')) (fun i _ => n3 - (intOf i).toNat)
  case atStart => exact ⟨0, Nat.zero_le _, rfl, Lib.hid ⟨_, ⟨[], HF.out.1.old hr3.out.2.1, World.ownsRow_nil _ _ _ _, (fun g hg => by cases hg), trivial⟩, fun k _ _ => rfl, (fun g hg => by cases hg), Nat.le_refl _⟩⟩
  case round =>
    obtain ⟨j, hj, rfl, hS⟩ := hrel
    by_cases hlt : j < n3
    · obtain ⟨hown, hA, hrow, hcl, hlen⟩ := HP.out
      obtain ⟨x, hx⟩ : ∃ x, l[j]? = some x := ⟨l[j]'(by rw [← HN.out]; exact hlt), List.getElem?_eq_getElem _⟩
      obtain ⟨cj, hcj, hRx⟩ := All2.get hA j x hx
      obtain ⟨g, rfl, hg, hgb, hcell⟩ := hrow (by rw [← HN.out]; omega)
      obtain ⟨y2, y3, y4, rfl⟩ := hRx.form
      obtain ⟨vK', hL, hK⟩ := hS.out
      have hgM : g ≠ M := by have := hr3.out.2.2 g rfl; have := HF.out.1.rm.lt; omega
      have hfl : ∀ i, i < 2 → wr.cell? ⟨g, j * 2 + i, none⟩ = [Value.int .u8 d, .slice y2 y3 y4][i]? := fun i h => by
        rw [World.cell?_of_block (a := ⟨g, j * 2 + i, none⟩) (hK.1 g hg hgM), ← flat_get ccs hcl j i _ h hcj]
        refine hcell _ ?_
        rw [flat_len2 ccs hcl, hlen, ← HN.out]; omega
      have p0 : wr.cell? ⟨g, j * 2, none⟩ = some (.int .u8 d) := hfl 0 (by decide)
      have p1 : wr.cell? ⟨g, j * 2 + 1, none⟩ = some (.slice y2 y3 y4) := hfl 1 (by decide)
      have hxk : ∀ W, Below wr.heap.size wr W → LSc d (fun _ => True) W [.int .u8 d, .slice y2 y3 y4] x := fun W hW => by
        refine (LSc.rep d).mono _ _ _ _ _ ((LSc.rep d).keep _ w3 W _ _ ((LSc.rep d).nar _ _ _ _ hRx) fun k o hk ho _ => ?_) fun k _ => trivial
        have hkM : k ≠ M := by
          rcases hk.1 with h | h
          · have := HF.out.1.rm.lt; omega
          · have h2 : F k := h.1
            rw [HFF.out] at h2
            have := HF.out.1.lt
            have := h2.2
            omega
        have hk3 := hK.2.2
        exact (hW.block k (by have := hk.2; omega)).trans ((hK.1 k hk.2 hkM).trans ho)
      have hcall := fun W (hW : Below wr.heap.size wr W) => plainLine_any d _ _ x W hd (hxk W hW)
      obtain ⟨L, hLe⟩ : ∃ L, L = l.take j := ⟨_, rfl⟩
      have htk : l.take (j + 1) = L ++ [x] := by rw [hLe, List.take_add_one, hx]; rfl
      have htl : L.length ≤ 100000 := by rw [hLe, List.length_take]; omega
      rw [← hLe] at hL
      have HC := Lib.hid (And.intro hcall (And.intro htk (And.intro hL hK)))
      have hsz := hK.2.2
      clear hown hA hrow hcl hx hcj hRx hcell hfl hcall htk hL hK hLe hxk hS hlen hgb
      go_upto_block 1 with fail
      go_cut [] (fun wx => RowKit.Hid (∃ vK', LpM (GLc d) w.heap.size M 81 #[.slice a n c, .int .u8 d] 3 d (l.take (j + 1)) vK' w wx ∧ Kp M w3.heap.size w3 wx vK'))
      case first =>
        go_upto_region 5 with fail
        obtain ⟨W1, hW1⟩ : ∃ W1, W1 = wr.alloc (.cells #[.int .u8 d, .slice y2 y3 y4] 126) := ⟨_, rfl⟩
        have hbW : Below wr.heap.size wr W1 := by rw [hW1]; exact (Below.refl _ _).alloc (Nat.le_refl _) _
        have hMW : Rw wr.heap.size #[.int .u8 d, .slice y2 y3 y4] 126 W1 := by rw [hW1]; exact Rw.new _ _ _
        rw [← hW1]
        clear hW1
        have m0 : W1.cell? ⟨wr.heap.size, 0, none⟩ = some (.int .u8 d) := hMW.cell 0 rfl
        have m1 : W1.cell? ⟨wr.heap.size, 1, none⟩ = some (.slice y2 y3 y4) := hMW.cell 1 rfl
        obtain ⟨ccs1, hF1, hown1, hvb1, hA1⟩ := LpM.old (GLc.rep d) HC.out.2.2.1 hbW
        have hcl := HC.out.1 W1.drew (hbW.drew)
        have c3 := hF1.rm.cell 3 (v := vK') rfl
        have z3 := hF1.rm.froz 3
        have hms : M < W1.heap.size := hF1.rm.lt
        have HG := Lib.hid (And.intro hF1 (And.intro hown1 (And.intro hvb1 (And.intro hA1 (And.intro hcl hbW)))))
        clear hF1 hown1 hvb1 hA1 hcl hbW hMW p0 p1
        go_region_law ((first
          | (refine step_call1 (by rfl) 63 Tryz.f63 Tryz.func63 fine63 _ _ (by rfl) _ (by rfl) HG.out.2.2.2.2.1 ?_; rintro e w5 ⟨cs, rfl, hxR, hb5⟩; obtain ⟨b0, b1, b2, b3, b4, b5, b6, b7, rfl⟩ := (GLc.rep d).form _ _ _ _ hxR; have hown5 := ownsRow_keep (w' := w5) HG.out.2.1 (fun k hk hl => hb5.block k hl); obtain ⟨c33, z33⟩ := cf_of (hb5.block M hms) ⟨c3, z3⟩; have l33 : M < w5.heap.size := Nat.lt_of_lt_of_le hms hb5.size; have c35 : ∀ o, (w5.alloc o).cell? ⟨M, 3, none⟩ = some vK' := fun o => (cf_of (Below.heap_alloc w5 o _ l33) ⟨c33, z33⟩).1; refine ⟨_, rfl, ?_⟩)
          | (refine step_append_lies _ (by rfl) _ _ _ (by rfl) 0 45 i0 _ 4 64 Tryz.underlying43 hi hz0 hz1 hz2 rfl (by omega) vK' L.length ccs1.flatten (by rfl) (hown5.alloc _) ⟨w5.heap.size, 0, none⟩ 1 1 [_, _, _, _] (by rfl) (by rfl) (cells_lit4 _ _ _ _ _ _ _ rfl) (by intro u hu; simp at hu; rcases hu with rfl | rfl | rfl | rfl <;> rfl) (by omega) (by unfold maxLen; omega) (by omega) (Nat.zero_le _) (w5.heap.size + 1) (by simp) ?_; intro g3 cap w4 hown4 hg4 hat hlt4; obtain ⟨c34, z34⟩ := cf_of ((hg4.block M (by simp; omega) (fun e => absurd (HG.out.2.2.1 _ e.symm) (by omega))).trans (Below.heap_alloc _ _ _ l33)) ⟨c33, z33⟩)))
        all_goals go_wp2_with fail
        all_goals go_meet
        all_goals
          exact Lib.hid (by
            rw [HC.out.2.1]
            obtain ⟨r1, r2, r3, r4, r5, r6⟩ := HG.out
            have hK := HC.out.2.2.2
            have s1 := r6.size
            have s5 := hb5.size
            have s5' : W1.heap.size ≤ w5.heap.size := s5
            have s4 := hg4.size
            simp only [World.size_alloc] at s4
            refine ⟨_, LpM.mk (GLc.rep d) r1 r2 r3 r4 (((Below.refl _ _).drew).trans hb5) hxR hown4 hg4 hat, fun k hk hkM => ?_, fun g' hg' => ?_, ?_⟩
            · rw [Below.heap_setCell _ _ _ _ (show k ≠ M from hkM), hg4.block k (by simp; omega) (fun e => by have := hK.2.1 k e.symm; omega), Below.heap_alloc _ _ _ (by omega), hb5.block k (by show k < W1.heap.size; omega)]
              exact (r6.block k (by omega)).trans (hK.1 k hk hkM)
            · have : g3 = g' := by simpa [Value.ownBlock] using hg'
              rcases hat with h | h
              · have := hK.2.1 _ h; omega
              · omega
            · show _ ≤ (w4.setCell _ _).heap.size
              simp only [World.setCell, Array.size_modify]
              omega)
      case rest =>
        go_wp2_with fail
        go_roundw
        case rel => exact ⟨j + 1, by omega, by go_num, hcut⟩
        case measure => simp [intOf]; omega
    · have hjn : j = n3 := by omega
      subst hjn
      obtain ⟨vK', hL, hK⟩ := hS.out
      rw [HN.out, List.take_length] at hL
      obtain ⟨ccs', hF, hownK, hvb, hAK⟩ := hL
      obtain ⟨a2, e2, rfl, -⟩ := row_slice hownK
      obtain ⟨c0, c1, c2, c3', o0, o1, o2, o3⟩ := hF.outc
      have z0 := hF.ro.froz 0; have z1 := hF.ro.froz 1; have z2 := hF.ro.froz 2; have z3 := hF.ro.froz 3
      have HD := Lib.hid (LpM.done (GLc.rep d) HLL.out ⟨ccs', hF, hownK, hvb, hAK⟩)
      clear hF hownK hvb hAK hS hK
      go_wp2_with fail
      exact bodyPost_ret_by (results_cell_row rfl _ _ (w.heap.size + 1) 45 _ (0, 0) _ rfl HD.out.1 Tryz.underlying45 rfl (by kernel_rfl)) rfl HD.out.2
end Go.Proofs.YtblpcpkkjbkakaaGreatDoor
/- Several polygons as plain data. -/
namespace Go.Proofs.YtblpcpkkjbkakaaGreatDoor
open Go Go.RowKit
set_option linter.unusedVariables false
set_option linter.unusedSimpArgs false

theorem fine36 : (Tryz.f36.name == "runtime.NumGoroutine" || Tryz.f36.body.isNone) = false := by kernel_rfl
theorem fine37 : (Tryz.f37.name == "runtime.NumGoroutine" || Tryz.f37.body.isNone) = false := by kernel_rfl
set_option maxRecDepth 100000 in
set_option maxHeartbeats 4000000 in
theorem plainMulti_any (d : Nat) (F : Nat → Prop) (cs : List Value) (l : List (List (List Nat))) (w : World) (hd : d < 4) (h : SKc (PGR d) 81 d F w cs l) : Calls Tryz.prog 22 #[.agg ⟨cs⟩] w (FrPost (GMc d) l w) := by
  obtain ⟨i0, hi, hz0, hz1, hz2⟩ := info_parts info45
  obtain ⟨a, n, c, rfl⟩ := h.form
  obtain ⟨vR, ccs0, hvR, hown, hFv, hA, hll⟩ := h
  obtain rfl : Value.slice a n c = vR := by simp only [List.cons.injEq, and_true] at hvR; exact hvR
  clear hvR
  have hn : n = l.length := RowS.len ⟨ccs0, hown, hFv, hA, hll⟩
  obtain ⟨a', c', hva, hrow⟩ := row_slice hown
  obtain ⟨rfl, rfl⟩ : a = a' ∧ c = c' := by simp only [Value.slice.injEq] at hva; exact ⟨hva.1, hva.2.2⟩
  have hcl : ∀ c ∈ ccs0, c.length = 2 := All2.left (fun a b h => (PGR.rep d).len _ w a b h) hA
  have hlen : ccs0.length = l.length := All2.length hA
  have HP := Lib.hid (And.intro hA (And.intro hrow (And.intro hcl (And.intro hlen hn))))
  have hn5 : n ≤ 100000 := by omega
  obtain ⟨W0, hW0⟩ : ∃ W0, W0 = (w.alloc (.cells ⟨[.slice a n c, .int .u8 d]⟩ 53)).alloc (.cells #[.int .i64 0, .int .i64 0, .slice none 0 0, .slice none 0 0] 45) := ⟨_, rfl⟩
  have r0 : Rw w.heap.size #[.slice a n c, .int .u8 d] 53 W0 := by rw [hW0]; exact (Rw.new _ _ _).alloc _
  have r1 : Rw (w.heap.size + 1) #[.int .i64 0, .int .i64 0, .slice none 0 0, .slice none 0 0] 45 W0 := by rw [hW0]; exact heap_new2 _ _ _
  have hb0 : Below w.heap.size w W0 := by rw [hW0]; exact below2 _ _ _
  have hs0 : W0.heap.size = w.heap.size + 2 := by rw [hW0]; simp
  have q0 : W0.cell? ⟨w.heap.size, 0, none⟩ = some (.slice a n c) := r0.cell 0 rfl
  have q1 : W0.cell? ⟨w.heap.size, 1, none⟩ = some (.int .u8 d) := r0.cell 1 rfl
  have HR := Lib.hid (And.intro r0 (And.intro r1 (And.intro hb0 hs0)))
  have hcv : IntKind.i64.wrap (d : Int) = d := by rw [IntKind.wrap_i64]; omega
  have HLL := Lib.hid hll
  clear r0 r1 hb0 hs0 hown hFv hA hll hrow hva hcl hlen hn
  go_enter Tryz.func22, Tryz.ntmps22
  go_upto_region 1 with fail
  rw [← hW0]
  clear hW0
  go_upto_region 2 with (go_at_call 34; refine (mctype_any d n c a _).mono ?_; rintro e w1 ⟨rfl, hb1⟩; replace hb1 := Lib.hid hb1)
  have hf4 : F4 w.heap.size w1.heap.size 53 #[.slice a n c, .int .u8 d] 6 d (.slice none 0 0) (.slice none 0 0) w (w1.alloc (.cells #[.int .i64 6, .int .i64 d, .slice none 0 0, .slice none 0 0] 45)) := F4.new HR.out.1 HR.out.2.1 HR.out.2.2.1 HR.out.2.2.2 hb1.out
  obtain ⟨W2, hW2⟩ : ∃ W2, W2 = w1.alloc (.cells #[.int .i64 6, .int .i64 d, .slice none 0 0, .slice none 0 0] 45) := ⟨_, rfl⟩
  rw [← hW2] at hf4 ⊢
  obtain ⟨M, hM⟩ : ∃ M, M = w1.heap.size := ⟨_, rfl⟩
  rw [← hM] at hf4 ⊢
  have HF := Lib.hid hf4
  clear hf4 hW2 hM hb1 HR q0 q1
  go_wp2_with fail
  go_loopw [4] (fun i wr => ∃ j : Nat, j ≤ n ∧ i = .int .i64 j ∧ RowKit.Hid (∃ vK', LpM (GPc d) w.heap.size M 53 #[.slice a n c, .int .u8 d] 6 d (l.take j) vK' w wr)) (fun i _ => n - (intOf i).toNat)
  case atStart => exact ⟨0, Nat.zero_le _, rfl, Lib.hid ⟨_, [], HF.out, World.ownsRow_nil _ _ _ _, (fun g hg => by cases hg), trivial⟩⟩
  case round =>
    obtain ⟨j, hj, rfl, hS⟩ := hrel
    obtain ⟨vK', hL⟩ := hS.out
    have b0 := hL.choose_spec.1.rb.cell 0 (v := Value.slice a n c) rfl
    have b1 := hL.choose_spec.1.rb.cell 1 (v := Value.int .u8 d) rfl
    have HL := Lib.hid hL
    clear hL hS
    by_cases hlt : j < n
    · obtain ⟨hA, hrow, hcl, hlen, hn⟩ := HP.out
      obtain ⟨x, hx⟩ : ∃ x, l[j]? = some x := ⟨l[j]'(by rw [← hn]; exact hlt), List.getElem?_eq_getElem _⟩
      obtain ⟨cj, hcj, hRx⟩ := All2.get hA j x hx
      obtain ⟨g, rfl, hg, hgb, hcell⟩ := hrow (by rw [← hn]; omega)
      obtain ⟨y2, y3, y4, rfl⟩ := hRx.form
      have hfl : ∀ i, i < 2 → w.cell? ⟨g, j * 2 + i, none⟩ = [Value.slice y2 y3 y4, .int .u8 d][i]? := fun i h => by
        rw [← flat_get ccs0 hcl j i _ h hcj]
        refine hcell _ ?_
        rw [flat_len2 ccs0 hcl, hlen, ← hn]; omega
      have hpn : ∀ W, Below w.heap.size w W → Calls Tryz.prog 37 #[.agg #[.slice (some ⟨g, 0, none⟩) n c, .int .u8 d], .int .i64 j] W fun e w' => e = .returned (.agg #[.slice y2 y3 y4, .int .u8 d]) ∧ Below W.heap.size W w' := fun W hW =>
        polyN_any d d g n c j y3 y4 y2 W hlt (Nat.lt_of_lt_of_le hg hW.size) ((hW.cell (p := ⟨g, j * 2, none⟩) hg).trans (hfl 0 (by decide))) ((hW.cell (p := ⟨g, j * 2 + 1, none⟩) hg).trans (hfl 1 (by decide)))
      have hcall := fun W (hW : Below w.heap.size w W) => plainPoly_any d F _ x W hd ((PGR.rep d).keep _ w W _ _ hRx fun k o _ ho _ => (hW.block k (Array.getElem?_eq_some_iff.1 ho).1).trans ho)
      obtain ⟨L, hLe⟩ : ∃ L, L = l.take j := ⟨_, rfl⟩
      have htk : l.take (j + 1) = L ++ [x] := by rw [hLe, List.take_add_one, hx]; rfl
      have htl : L.length ≤ 100000 := by rw [hLe, List.length_take]; omega
      rw [← hLe] at HL
      have HC := Lib.hid (And.intro hpn (And.intro hcall htk))
      clear hA hrow hcl hlen hn hx hcj hRx hcell hfl hpn hcall htk hLe hgb
      go_upto_block 1 with (go_at_call 35; refine (numPolys_any d n c (some ⟨g, 0, none⟩) _).mono ?_; rintro e w5 ⟨rfl, hb5⟩)
      have hL5 := LpM.old (GKc.rep (GLc.rep d) 3 d) HL.out hb5
      have a0 := hL5.choose_spec.1.rb.cell 0 (v := Value.slice (some ⟨g, 0, none⟩) n c) rfl
      have a1 := hL5.choose_spec.1.rb.cell 1 (v := Value.int .u8 d) rfl
      have H5 := Lib.hid hL5
      clear hL5 hb5 HL b0 b1
      go_cut [] (fun wx => RowKit.Hid (∃ vK', LpM (GPc d) w.heap.size M 53 #[.slice (some ⟨g, 0, none⟩) n c, .int .u8 d] 6 d (l.take (j + 1)) vK' w wx))
      case first =>
        obtain ⟨ccs1, hF1, hown1, hvb1, hA1⟩ := H5.out
        have c3 := hF1.rm.cell 3 (v := vK') rfl
        have z3 := hF1.rm.froz 3
        have hms : M < w5.heap.size := hF1.rm.lt
        have hns : w.heap.size ≤ w5.heap.size := hF1.bl.size
        have hcl := HC.out.1 w5.drew hF1.bl.drew
        have HG := Lib.hid (And.intro hF1 (And.intro hown1 (And.intro hvb1 (And.intro hA1 hcl))))
        clear hF1 hown1 hvb1 hA1 hcl
        go_upto_region 5 with fail
        go_region_law ((first
          | (refine step_call2 (by rfl) 37 Tryz.f37 Tryz.func37 fine37 _ _ _ (by rfl) _ _ (by rfl) (by rfl) HG.out.2.2.2.2 ?_; rintro e w6 ⟨rfl, hb6⟩; have hb6' : Below w5.heap.size w5 w6 := ((Below.refl _ _).drew).trans hb6; obtain ⟨c36, z36⟩ := cf_of (hb6'.block M hms) ⟨c3, z3⟩; refine ⟨_, rfl, ?_⟩)
          | (refine step_call1 (by rfl) 36 Tryz.f36 Tryz.func36 fine36 _ _ (by rfl) _ (by rfl) (HC.out.2.1 _ (HG.out.1.bl.trans (hb6'.mono hns))) ?_; rintro e w7 ⟨cs, rfl, hxR, hb7⟩; obtain ⟨b0, b1, b2, b3, b4, b5, b6, b7, rfl⟩ := (GKc.rep (GLc.rep d) 3 d).form _ _ _ _ hxR; have hb57 : Below w5.heap.size w5 w7 := hb6'.trans (hb7.mono hb6'.size); have hown7 := ownsRow_keep (w' := w7) HG.out.2.1 (fun k hk hl => hb57.block k hl); obtain ⟨c37, z37⟩ := cf_of (hb57.block M hms) ⟨c3, z3⟩; have l37 : M < w7.heap.size := Nat.lt_of_lt_of_le hms hb57.size; have c38 : ∀ o, (w7.alloc o).cell? ⟨M, 3, none⟩ = some vK' := fun o => (cf_of (Below.heap_alloc w7 o _ l37) ⟨c37, z37⟩).1; refine ⟨_, rfl, ?_⟩)
          | (refine step_append_lies _ (by rfl) _ _ _ (by rfl) 0 45 i0 _ 4 64 Tryz.underlying43 hi hz0 hz1 hz2 rfl (by omega) vK' L.length ccs1.flatten (by rfl) (hown7.alloc _) ⟨w7.heap.size, 0, none⟩ 1 1 [_, _, _, _] (by rfl) (by rfl) (cells_lit4 _ _ _ _ _ _ _ rfl) (by intro u hu; simp at hu; rcases hu with rfl | rfl | rfl | rfl <;> rfl) (by omega) (by unfold maxLen; omega) (by omega) (Nat.zero_le _) (w7.heap.size + 1) (by simp) ?_; intro g3 cap w4 hown4 hg4 hat hlt4; obtain ⟨c34, z34⟩ := cf_of ((hg4.block M (by simp; omega) (fun e => absurd (HG.out.2.2.1 _ e.symm) (by omega))).trans (Below.heap_alloc _ _ _ l37)) ⟨c37, z37⟩)))
        all_goals go_wp2_with fail
        all_goals go_meet
        all_goals
          exact Lib.hid (by
            rw [HC.out.2.2]
            obtain ⟨r1, r2, r3, r4, r5⟩ := HG.out
            exact ⟨_, LpM.mk (GKc.rep (GLc.rep d) 3 d) r1 r2 r3 r4 hb57 ((GKc.rep (GLc.rep d) 3 d).mono _ _ _ _ _ hxR fun k hk => Nat.le_trans hb6'.size hk) hown4 hg4 hat⟩)
      case rest =>
        go_wp2_with fail
        go_roundw
        case rel => exact ⟨j + 1, by omega, by go_num, hcut⟩
        case measure => simp [intOf]; omega
    · have hjn : j = n := by omega
      subst hjn
      go_upto_region 6 with (go_at_call 35; refine (numPolys_any d j c a _).mono ?_; rintro e w5 ⟨rfl, hb5⟩)
      have hL := LpM.old (GKc.rep (GLc.rep d) 3 d) HL.out hb5
      rw [HP.out.2.2.2.2, List.take_length] at hL
      obtain ⟨ccs', hF, hownK, hvb, hAK⟩ := hL
      obtain ⟨a2, e2, rfl, -⟩ := row_slice hownK
      obtain ⟨c0, c1, c2, c3', o0, o1, o2, o3⟩ := hF.outc
      have z0 := hF.ro.froz 0; have z1 := hF.ro.froz 1; have z2 := hF.ro.froz 2; have z3 := hF.ro.froz 3
      have HD := Lib.hid (LpM.done (GKc.rep (GLc.rep d) 3 d) HLL.out ⟨ccs', hF, hownK, hvb, hAK⟩)
      clear hF hownK hvb hAK hb5 HL b0 b1
      go_wp2_with fail
      exact bodyPost_ret_by (results_cell_row rfl _ _ (w.heap.size + 1) 45 _ (0, 0) _ rfl HD.out.1 Tryz.underlying45 rfl (by kernel_rfl)) rfl HD.out.2
end Go.Proofs.YtblpcpkkjbkakaaGreatDoor
/- The door: a body read as several polygons. -/
namespace Go.Proofs.YtblpcpkkjbkakaaGreatDoor
open Go Go.RowKit
set_option linter.unusedVariables false
set_option linter.unusedSimpArgs false
theorem set2_keep (w : World) (m : Nat) (a b : Value) (k : Nat) (hk : k ≠ m) : (((w.setCell ⟨m, 0, none⟩ a).setCell ⟨m, 1, none⟩ b)).heap[k]? = w.heap[k]? := by
  rw [Below.heap_setCell _ _ _ _ hk, Below.heap_setCell _ _ _ _ hk]
/-- The outcome of the door's reading. -/
def DmPost (d : Nat) (T : List Tok) (w : World) (e : Ending) (w' : World) : Prop :=
  ∃ cs err, e = .returned (.tuple #[.agg ⟨cs⟩, err]) ∧ ((∃ x T', mpolyP d T = some (x, T') ∧ err = .nilIface ∧ SKc (PGR d) 81 d (fun k => w.heap.size ≤ k) w' cs x) ∨ (mpolyP d T = none ∧ cs = [.slice none 0 0, .int .u8 0] ∧ ∃ u y, err = .iface u y)) ∧ Below w.heap.size w w'
set_option maxRecDepth 100000 in
set_option maxHeartbeats 4000000 in
theorem doorMulti_any (s : ByteArray) (d : Nat) (B : Nat) (g gl gp : Nat × Nat) (T : List Tok) (w : World) (hs : s.size ≤ 2000) (hd : d < 4) (ht : toks false s.data.toList = some T) (hp : NoPad T) (hG : GlN B g gl gp w) (hT : T.length ≤ 99999) :
    Calls Tryz.prog 20 #[.string s, .int .u8 d] w (DmPost d T w) := by
  have hG1 := hG.up hG.hB.2.2.2.2 (Nat.le_refl _)
  obtain ⟨W0, hW0⟩ : ∃ W0, W0 = w.alloc (.cells #[.slice none 0 0, .int .u8 0] 53) := ⟨_, rfl⟩
  have r0 : Rw w.heap.size #[.slice none 0 0, .int .u8 0] 53 W0 := by rw [hW0]; exact Rw.new _ _ _
  have hb0 : Below w.heap.size w W0 := by rw [hW0]; exact (Below.refl _ _).alloc (Nat.le_refl _) _
  have hs0 : W0.heap.size = w.heap.size + 1 := by rw [hW0]; simp
  have hG0 := hG1.keepO hb0
  have hG0' := hG0.up (B' := W0.heap.size) (by omega) (Nat.le_refl _)
  have H1 := Lib.hid (parser_pt s T W0 hs ht hp)
  have HP := Lib.hid (And.intro r0 (And.intro hb0 (And.intro hs0 hG0')))
  clear r0 hb0 hs0 hG hG1 hG0 hG0' ht hp
  go_enter Tryz.func20, Tryz.ntmps20
  go_upto_region 1 with fail
  rw [← hW0]
  clear hW0
  go_wp2_with (first | (go_at_call 26; refine H1.out.mono ?_; rintro e w1 ⟨rfl, hPT, hb1⟩; have H2 := Lib.hid (mpoly_pt s _ _ _ _ d g gl gp T w1 hs hd hPT (HP.out.2.2.2.keepO hb1) hT); replace hPT := Lib.hid (And.intro hPT hb1); clear hb1) | (go_at_call 33; refine H2.out.mono ?_; rintro e w2 ⟨cs, err, rfl, hk, hfr⟩; obtain ⟨a, n, c, dd, rfl⟩ : ∃ a n c dd, cs = [.slice a n c, .int .u8 (dd : Nat)] := (by rcases hk with ⟨x, T', -, -, hx, -⟩ | ⟨-, rfl, -⟩; (exact (let ⟨a, n, c, h⟩ := hx.form; ⟨a, n, c, _, h⟩)); (exact ⟨_, _, _, 0, rfl⟩)); have hb2 : Below W0.heap.size W0 w2 := hPT.out.2.trans hfr.1; have hs1 : W0.heap.size ≤ w1.heap.size := hPT.out.2.size; have r2 := HP.out.1.old hb2 (by have := HP.out.2.2.1; omega); have d0 := r2.cell 0 (v := Value.slice none 0 0) rfl; have d1 := r2.cell 1 (v := Value.int .u8 0) rfl; have z0 := r2.froz 0; have z1 := r2.froz 1; replace hk := Lib.hid (And.intro hk (And.intro r2 (And.intro hb2 hs1))); clear hfr r2 hb2 hs1))
  all_goals
    obtain ⟨hk, r2, hb2, hs1⟩ := hk.out
    have q1 := (r2.set 0 (.slice a n c)).set 1 (.int .u8 dd)
    have hs0 := HP.out.2.2.1
    have hbw : Below w.heap.size w w2 := HP.out.2.1.trans (hb2.mono (by omega))
    have q2 : Below w.heap.size w ((w2.setCell ⟨w.heap.size, 0, none⟩ (.slice a n c)).setCell ⟨w.heap.size, 1, none⟩ (.int .u8 dd)) := (hbw.setCell (p := ⟨w.heap.size, 0, none⟩) (Nat.le_refl _) _).setCell (p := ⟨w.heap.size, 1, none⟩) (Nat.le_refl _) _
    refine bodyPost_ret_by (results_row_tmp (u := 5) rfl _ _ w.heap.size 53 _ (0, 0) _ rfl q1 Tryz.underlying53 rfl (by kernel_rfl)) rfl ⟨_, _, rfl, ?_, q2⟩
    rcases hk with ⟨x, T', h1, h2, h3, -⟩ | ⟨h1, h2, h3⟩
    · refine .inl ⟨x, T', h1, h2, ?_⟩
      refine (SKc.rep (PGR.rep d) 81 d (by decide)).mono _ _ _ _ _ ((SKc.rep (PGR.rep d) 81 d (by decide)).keep _ w2 _ _ _ h3 fun k o hk ho _ => (set2_keep w2 w.heap.size _ _ k ?_).trans ho) fun k hk => ?_
      · have : w1.heap.size ≤ k := hk; omega
      · show w.heap.size ≤ k; have : w1.heap.size ≤ k := hk; omega
    · exact .inr ⟨h1, h2, h3⟩
/-- The outcome of the package's reading. -/
def ImPost (d : Nat) (T : List Tok) (w : World) (e : Ending) (w' : World) : Prop :=
  ∃ cs b, e = .returned (.tuple #[.agg ⟨cs⟩, .bool b]) ∧ (b = true → ∃ x T', mpolyP d T = some (x, T') ∧ GMc d (fun k => w.heap.size ≤ k) w' cs x) ∧ (b = false → mpolyP d T = none) ∧ (∃ y0 y1 y2 y3 y4 y5 y6 y7, cs = [.int .i64 y0, .int .i64 y1, .slice y2 y3 y4, .slice y5 y6 y7]) ∧ Below w.heap.size w w'
set_option maxRecDepth 100000 in
set_option maxHeartbeats 4000000 in
theorem implMulti_any (s : ByteArray) (d : Nat) (B : Nat) (g gl gp : Nat × Nat) (T : List Tok) (w : World) (hs : s.size ≤ 2000) (hd : d < 4) (ht : toks false s.data.toList = some T) (hp : NoPad T) (hG : GlN B g gl gp w) (hT : T.length ≤ 99999) :
    Calls Tryz.prog 10 #[.string s, .int .i64 d] w (ImPost d T w) := by
  have hG1 := hG.up hG.hB.2.2.2.2 (Nat.le_refl _)
  obtain ⟨W0, hW0⟩ : ∃ W0, W0 = w.alloc (.cells #[.int .i64 0, .int .i64 0, .slice none 0 0, .slice none 0 0] 45) := ⟨_, rfl⟩
  have r0 : Rw w.heap.size #[.int .i64 0, .int .i64 0, .slice none 0 0, .slice none 0 0] 45 W0 := by rw [hW0]; exact Rw.new _ _ _
  have hb0 : Below w.heap.size w W0 := by rw [hW0]; exact (Below.refl _ _).alloc (Nat.le_refl _) _
  have hs0 : W0.heap.size = w.heap.size + 1 := by rw [hW0]; simp
  have hG0 := hG1.keepO hb0
  have H1 := Lib.hid (doorMulti_any s d _ g gl gp T W0 hs hd ht hp hG0 hT)
  have hdim := dimOf_any d W0 hd
  have HP := Lib.hid (And.intro r0 (And.intro hb0 (And.intro hs0 hdim)))
  clear r0 hb0 hs0 hG hG1 hG0 ht hp hdim
  go_enter Tryz.func10, Tryz.ntmps10
  go_upto_region 1 with fail
  rw [← hW0]
  clear hW0
  go_upto_region 2 with (first | (go_at_call 21; refine HP.out.2.2.2.mono ?_; rintro e w' ⟨rfl, rfl⟩) | (go_at_call 20; refine H1.out.mono ?_; rintro e w2 ⟨cs, err, rfl, hk, hb⟩; obtain ⟨a, n, c, dd, rfl⟩ : ∃ a n c dd, cs = [.slice a n c, .int .u8 (dd : Nat)] := (by rcases hk with ⟨x, T', -, -, hx⟩ | ⟨-, rfl, -⟩; (exact (let ⟨a, n, c, h⟩ := hx.form; ⟨a, n, c, _, h⟩)); (exact ⟨_, _, _, 0, rfl⟩)); replace hk := Lib.hid (And.intro hk hb); clear hb))
  obtain ⟨hk, hb2⟩ := hk.out
  have hs0 := HP.out.2.2.1
  have hs2 := hb2.size
  obtain ⟨W3, hW3⟩ : ∃ W3, W3 = w2.alloc (.cells #[.slice a n c, .int .u8 dd] 53) := ⟨_, rfl⟩
  have r3 : Rw w.heap.size #[.int .i64 0, .int .i64 0, .slice none 0 0, .slice none 0 0] 45 W3 := by rw [hW3]; exact (HP.out.1.old hb2 (by omega)).alloc _
  have m3 : Rw w2.heap.size #[.slice a n c, .int .u8 dd] 53 W3 := by rw [hW3]; exact Rw.new _ _ _
  have hb3 : Below w2.heap.size w2 W3 := by rw [hW3]; exact (Below.refl _ _).alloc (Nat.le_refl _) _
  have hbw : Below w.heap.size w W3 := (HP.out.2.1.trans (hb2.mono (by omega))).trans (hb3.mono (by omega))
  rw [← hW3]
  clear hW3
  rcases hk with ⟨x, T', h1, rfl, h3⟩ | ⟨h1, h2, u, y, rfl⟩
  · have hR := (SKc.rep (PGR.rep d) 81 d (by decide)).keep _ w2 W3 _ _ h3 fun k o hk ho _ => (hb3.block k (Array.getElem?_eq_some_iff.1 ho).1).trans ho
    have hds := h3.form
    obtain rfl : d = dd := by obtain ⟨_, _, _, h⟩ := hds; simp at h; omega
    have e0 := m3.cell 0 (v := Value.slice a n c) rfl; have e1 := m3.cell 1 (v := Value.int .u8 d) rfl
    have hpl := plainMulti_any d _ _ x W3 hd hR
    have hw3 : w.heap.size < W3.heap.size := r3.lt
    have HX := Lib.hid (And.intro h1 (And.intro r3 (And.intro hbw (And.intro hpl hw3))))
    clear HP H1 h1 r3 m3 hbw hb2 hb3 hs0 hs2 hds hR h3 hpl hw3
    go_wp2_with (go_at_call 22; refine HX.out.2.2.2.1.mono ?_; rintro e w4 ⟨cs, rfl, hxR, hb4⟩; obtain ⟨b0, b1, b2, b3, b4, b5, b6, b7, rfl⟩ := (GKc.rep (GKc.rep (GLc.rep d) 3 d) 6 d).form _ _ _ _ hxR; have r4 := HX.out.2.1.old hb4 HX.out.2.2.2.2; have d0 := r4.cell 0 (v := Value.int .i64 0) rfl; have d1 := r4.cell 1 (v := Value.int .i64 0) rfl; have d2 := r4.cell 2 (v := Value.slice none 0 0) rfl; have d3 := r4.cell 3 (v := Value.slice none 0 0) rfl; have z0 := r4.froz 0; have z1 := r4.froz 1; have z2 := r4.froz 2; have z3 := r4.froz 3; replace hxR := Lib.hid (And.intro hxR (And.intro hb4 r4)); clear r4 hb4)
    obtain ⟨hxR, hb4, r4⟩ := hxR.out
    obtain ⟨h1, -, hbw, -, hw3⟩ := HX.out
    have q1 := (((r4.set 0 (.int .i64 b0)).set 1 (.int .i64 b1)).set 2 (.slice b2 b3 b4)).set 3 (.slice b5 b6 b7)
    have hbw4 : Below w.heap.size w w4 := hbw.trans (hb4.mono (by omega))
    refine bodyPost_ret_by (results_row_tmp (u := 5) rfl _ _ w.heap.size 45 _ (0, 0) _ rfl q1 Tryz.underlying45 rfl (by kernel_rfl)) rfl ⟨_, _, rfl, (fun _ => ⟨x, T', h1, ?_⟩), (fun h => by cases h), ⟨_, _, _, _, _, _, _, _, rfl⟩, ?_⟩
    · exact (GKc.rep (GKc.rep (GLc.rep d) 3 d) 6 d).mono _ _ _ _ _ ((GKc.rep (GKc.rep (GLc.rep d) 3 d) 6 d).keep _ w4 _ _ _ hxR fun k hk _ => set4_keep _ _ _ _ _ _ _ (by have : W3.heap.size ≤ k := hk; omega)) fun k hk => by have : W3.heap.size ≤ k := hk; omega
    · exact (((hbw4.setCell (p := ⟨w.heap.size, 0, none⟩) (Nat.le_refl _) _).setCell (p := ⟨w.heap.size, 1, none⟩) (Nat.le_refl _) _).setCell (p := ⟨w.heap.size, 2, none⟩) (Nat.le_refl _) _).setCell (p := ⟨w.heap.size, 3, none⟩) (Nat.le_refl _) _
  · have d0 := r3.cell 0 (v := Value.int .i64 0) rfl; have d1 := r3.cell 1 (v := Value.int .i64 0) rfl; have d2 := r3.cell 2 (v := Value.slice none 0 0) rfl; have d3 := r3.cell 3 (v := Value.slice none 0 0) rfl
    have z0 := r3.froz 0; have z1 := r3.froz 1; have z2 := r3.froz 2; have z3 := r3.froz 3
    have HX := Lib.hid (And.intro h1 (And.intro r3 hbw))
    clear HP H1 h2 h1 r3 m3 hbw hb2 hb3 hs0 hs2
    go_wp2_with fail
    obtain ⟨h1, r2, hbw⟩ := HX.out
    have q1 := (((r2.set 0 (.int .i64 0)).set 1 (.int .i64 0)).set 2 (.slice none 0 0)).set 3 (.slice none 0 0)
    refine bodyPost_ret_by (results_row_tmp (u := 5) rfl _ _ w.heap.size 45 _ (0, 0) _ rfl q1 Tryz.underlying45 rfl (by kernel_rfl)) rfl ⟨_, _, rfl, (fun h => by cases h), (fun _ => h1), ⟨_, _, _, _, _, _, _, _, rfl⟩, ?_⟩
    exact (((hbw.setCell (p := ⟨w.heap.size, 0, none⟩) (Nat.le_refl _) _).setCell (p := ⟨w.heap.size, 1, none⟩) (Nat.le_refl _) _).setCell (p := ⟨w.heap.size, 2, none⟩) (Nat.le_refl _) _).setCell (p := ⟨w.heap.size, 3, none⟩) (Nat.le_refl _) _
end Go.Proofs.YtblpcpkkjbkakaaGreatDoor
