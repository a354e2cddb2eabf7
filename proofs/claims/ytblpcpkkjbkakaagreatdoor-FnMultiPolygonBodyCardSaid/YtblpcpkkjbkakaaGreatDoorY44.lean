/- Lemmas towards the seat's laws: 1 texts joined. -/
import Derived.Test.YtblpcpkkjbkakaaGreatDoorY42
import Derived.Deep.RegionHeld3
/- The reference's places of numbers. -/
namespace Go.Proofs.YtblpcpkkjbkakaaGreatDoor
open Go Go.RowKit
set_option linter.unusedVariables false
set_option linter.unusedSimpArgs false

theorem band02 : bits BinOp.and IntKind.i64 0 2 = 0 := by kernel_rfl
theorem band12 : bits BinOp.and IntKind.i64 1 2 = 0 := by kernel_rfl
theorem band22 : bits BinOp.and IntKind.i64 2 2 = 2 := by kernel_rfl
theorem band32 : bits BinOp.and IntKind.i64 3 2 = 2 := by kernel_rfl
theorem info171 : (Tryz.prog.info? 171).map (fun i => (i.zero, i.size, i.bytes)) = some (some (.agg #[.float .f64 0, .float .f64 0, .float .f64 0, .float .f64 0]), 4, 32) := by kernel_rfl
theorem unfrozen_of_block {w : World} {g : Nat} {cs : Array Value} {t : TypeId} (h : w.heap[g]? = some (.cells cs t (0, 0))) (i : Nat) : w.frozen? ⟨g, i, none⟩ = false := by simp [World.frozen?, h]
@[go_sem] theorem run_store_float {P : Program} {w : World} {a : Addr} {m : Mode} (k : FloatKind) (n : Nat) : (store a (.float k n) m).run P w = stored P w a (.float k n) m := run_store P w a _ m rfl
/-- A place's four numbers; what its type has not is 0. -/
def quad (d : Nat) (xs : List Nat) (i : Nat) : List Nat :=
  [xs.getD (i * wid d) 0, xs.getD (i * wid d + 1) 0, if d % 2 = 1 then xs.getD (i * wid d + 2) 0 else 0, if d / 2 = 1 then xs.getD (i * wid d + wid d - 1) 0 else 0]
def pcells (d : Nat) (xs : List Nat) (p : Nat) : List Value := (List.range p).flatMap fun i => fcells (quad d xs i)
theorem pcells_succ (d : Nat) (xs : List Nat) (p : Nat) : pcells d xs (p + 1) = pcells d xs p ++ fcells (quad d xs p) := by
  unfold pcells; rw [List.range_succ]; simp
theorem fcells_get {w : World} {g c n : Nat} {xs : List Nat} (h : w.ownsRow 0 25 1 (.slice (some ⟨g, 0, none⟩) n c) n (fcells xs)) (hn : xs.length = n) (i : Nat) (hi : i < n) : w.cell? ⟨g, i, none⟩ = some (.float .f64 (xs.getD i 0)) := by
  rw [h.cellAt i (by omega)]
  unfold fcells
  rw [List.getElem?_map, List.getD_eq_getElem?_getD, List.getElem?_eq_getElem (by omega)]
  rfl
theorem band1 (d : Nat) (hd : d < 4) : bits BinOp.and IntKind.i64 (d : Int) 1 = ((d % 2 : Nat) : Int) := by
  obtain rfl | rfl | rfl | rfl : d = 0 ∨ d = 1 ∨ d = 2 ∨ d = 3 := by omega
  · exact band01
  · exact band11
  · exact band21
  · exact band31
theorem band2 (d : Nat) (hd : d < 4) : bits BinOp.and IntKind.i64 (d : Int) 2 = ((d / 2 * 2 : Nat) : Int) := by
  obtain rfl | rfl | rfl | rfl : d = 0 ∨ d = 1 ∨ d = 2 ∨ d = 3 := by omega
  · exact band02
  · exact band12
  · exact band22
  · exact band32
def PcPost (d : Nat) (xs : List Nat) (p : Nat) (w : World) (e : Ending) (w' : World) : Prop := ∃ v, e = .returned v ∧ w'.ownsRow w.heap.size 171 4 v p (pcells d xs p) ∧ (∀ k, v.ownBlock = some k → w.heap.size ≤ k) ∧ Below w.heap.size w w'
set_option maxRecDepth 100000 in
set_option maxHeartbeats 4000000 in
theorem places_some (d g c p : Nat) (xs : List Nat) (w : World) (hd : d < 4) (hp : 0 < p) (hp2 : p ≤ 100000) (h : w.ownsRow 0 25 1 (.slice (some ⟨g, 0, none⟩) (p * wid d) c) (p * wid d) (fcells xs)) (hx : xs.length = p * wid d) :
    Calls Tryz.prog 76 #[.slice (some ⟨g, 0, none⟩) (p * wid d : Nat) c, .int .i64 d] w (PcPost d xs p w) := by
  obtain ⟨i0, hi, hz0, hz1, hz2⟩ := info_parts info171
  have hgl : g < w.heap.size := (h.lt g rfl).2
  have hget := fun i hi => fcells_get h hx i hi
  have HX := Lib.hid (And.intro h (And.intro hx hget))
  clear h hx hget
  have HWD := Lib.hid (fun W => width_any d W hd)
  have b1 := band1 d hd
  have b2 := band2 d hd
  obtain ⟨n, hn⟩ : ∃ n, n = p * wid d := ⟨_, rfl⟩
  rw [← hn] at HX ⊢
  obtain ⟨wd, hwd⟩ : ∃ wd, wd = wid d := ⟨_, rfl⟩
  rw [← hwd] at HWD hn
  have HN := Lib.hid (And.intro hn hwd)
  have hwd2 : 2 ≤ wd ∧ wd ≤ 4 := by rw [hwd]; unfold wid; omega
  have hn2 : n ≤ 400000 := by rw [hn]; exact Nat.le_trans (Nat.mul_le_mul hp2 hwd2.2) (by decide)
  have hwz : d % 2 = 1 → 3 ≤ wd := by rw [hwd]; unfold wid; omega
  have hwm : d / 2 = 1 → 3 ≤ wd := by rw [hwd]; unfold wid; omega
  have hmz : d % 2 = 0 ∨ d % 2 = 1 := by omega
  have hmm : d / 2 = 0 ∨ d / 2 = 1 := by omega
  have HM := Lib.hid (And.intro hwz (And.intro hwm (And.intro hmz hmm)))
  clear hn hwd hwz hwm hmz hmm
  generalize hdz : d % 2 = dz at b1 HM
  generalize hdm : d / 2 = dm at b2 HM
  have HD := Lib.hid (And.intro hdz hdm)
  clear hdz hdm
  go_enter Tryz.func76, Tryz.ntmps76
  go_wp2_with (go_at_call 48; refine (HWD.out _).mono ?_; rintro e w' ⟨rfl, rfl⟩)
  go_loopw [5, 7] (fun v i wr => ∃ j : Nat, j ≤ p ∧ i = .int .i64 (j * wd : Nat) ∧ wr.ownsRow w.heap.size 171 4 v j (pcells d xs j) ∧ Below w.heap.size w wr) (fun _ i _ => n - (intOf i).toNat)
  case atStart => exact ⟨0, Nat.zero_le _, by simp, World.ownsRow_nil _ _ _ _, Below.refl _ _⟩
  case round =>
    obtain ⟨j, hj, rfl, hown, hb⟩ := hrel
    by_cases hlt : j < p
    · have hjn : j * wd + wd ≤ n := by
        rw [HN.out.1]
        calc j * wd + wd = (j + 1) * wd := by rw [Nat.succ_mul]
          _ ≤ p * wd := Nat.mul_le_mul_right _ hlt
      have hcell : ∀ i, i < n → wr.cell? ⟨g, i, none⟩ = some (.float .f64 (xs.getD i 0)) := fun i hi => (hb.cell (p := ⟨g, i, none⟩) hgl).trans (HX.out.2.2 i hi)
      have HP := Lib.hid (And.intro hown hb)
      have hsz : w.heap.size ≤ wr.heap.size := hb.size
      have HK := Lib.hid (fun (W : World) (hW : ∀ k, k < wr.heap.size → W.heap[k]? = wr.heap[k]?) => ownsRow_keep (w' := W) hown fun k _ hk => hW k hk)
      obtain ⟨I, hI⟩ : ∃ I, I = j * wd := ⟨_, rfl⟩
      rw [← hI] at hjn
      have e0 := hcell I (by omega)
      have e1 := hcell (I + 1) (by omega)
      rw [← hI]
      have HI := Lib.hid (And.intro hI hcell)
      clear hI hcell hown hb
      generalize hx0 : xs.getD I 0 = x0 at e0
      generalize hx1 : xs.getD (I + 1) 0 = x1 at e1
      have HQ := Lib.hid (And.intro hx0 hx1)
      clear hx0 hx1
      have i0' : (0 : Int) ≤ (I : Int) := by omega
      have i1' : (I : Int) < (n : Int) := by omega
      have i2' : (0 : Int) ≤ (I : Int) + 1 := by omega
      have i3' : (I : Int) + 1 < (n : Int) := by omega
      have i4' : ((I : Int) + 1).toNat = I + 1 := by omega
      have iw : IntKind.i64.wrap ((I : Int) + 1) = (I : Int) + 1 := by rw [IntKind.wrap_i64]; omega
      have hng : wr.heap.size ≠ g := by omega
      go_upto_region 6 with fail
      go_region_held3 (fun w' => w'.cell? ⟨g, I, none⟩ = some (.float .f64 x0) ∧ w'.cell? ⟨g, I + 1, none⟩ = some (.float .f64 x1)) (go_keep) (fail)
      obtain ⟨w2, hw2⟩ : ∃ w2, w2 = (wr.alloc (.cells #[.float .f64 x0, .float .f64 x1, .float .f64 0, .float .f64 0] 171)).drew := ⟨_, rfl⟩
      rw [← hw2]
      have hh : w2.heap[wr.heap.size]? = some (.cells #[.float .f64 x0, .float .f64 x1, .float .f64 0, .float .f64 0] 171 (0, 0)) := by rw [hw2]; exact heap_alloc_new wr _
      have hs2 : w2.heap.size = wr.heap.size + 1 := by rw [hw2]; simp
      have hkeep : ∀ k, k < wr.heap.size → w2.heap[k]? = wr.heap[k]? := fun k hk => by rw [hw2]; exact Below.heap_alloc _ _ _ hk
      have hsame : ∀ b, b < wr.heap.size → ∀ i, w2.cell? ⟨b, i, none⟩ = wr.cell? ⟨b, i, none⟩ := fun b hb i => by simp only [World.cell?, hkeep b hb]
      have q0 := (cell_of_row w2 wr.heap.size 0 _ _ _ hh).trans (show _ = some (Value.float .f64 x0) from rfl)
      have q1 := (cell_of_row w2 wr.heap.size 1 _ _ _ hh).trans (show _ = some (Value.float .f64 x1) from rfl)
      have q2 := (cell_of_row w2 wr.heap.size 2 _ _ _ hh).trans (show _ = some (Value.float .f64 0) from rfl)
      have q3 := (cell_of_row w2 wr.heap.size 3 _ _ _ hh).trans (show _ = some (Value.float .f64 0) from rfl)
      have f2 := unfrozen_of_block hh 2
      have f3 := unfrozen_of_block hh 3
      have HH := Lib.hid (And.intro hh (And.intro hkeep hw2))
      clear hh hw2
      rcases HM.out.2.2.1 with rfl | rfl <;> rcases HM.out.2.2.2 with rfl | rfl
      · have b1' : bits BinOp.and IntKind.i64 (d : Int) 1 = 0 := b1
        have b2' : bits BinOp.and IntKind.i64 (d : Int) 2 = 0 := b2
        clear b1 b2
        go_wp2_with (at_builtin; refine wpList_append_own _ rfl _ _ 142 rfl w.heap.size 171 i0 _ 4 32 Tryz.underlying142 hi hz0 hz1 hz2 rfl (by decide) _ _ _ rfl (HK.out _ (fun k hk => (Below.heap_alloc _ _ _ (by first | omega | exact hs2 | (simp [World.setCell]; omega) | (simp [World.setCell, hs2]; omega) | simp [World.setCell, hs2])).trans (hkeep k hk))) ⟨wr.heap.size + 1, 0, none⟩ 1 1 [_, _, _, _] rfl rfl (cells_lit4 _ _ _ _ _ _ _ (by first | omega | exact hs2 | (simp [World.setCell]; omega) | (simp [World.setCell, hs2]; omega) | simp [World.setCell, hs2])) (by intro u hu; simp at hu; rcases hu with rfl | rfl | rfl | rfl <;> rfl) (by unfold maxLen; omega) (by omega) (by first | omega | exact hs2 | (simp [World.setCell]; omega) | (simp [World.setCell, hs2]; omega) | simp [World.setCell, hs2]) ?_; intro v1 w5 hown5 hg5 _)
        go_roundw
        case rel =>
          go_light
          have hq : fcells (quad d xs j) = [.float .f64 x0, .float .f64 x1, .float .f64 0, .float .f64 0] := by
            unfold quad
            rw [← HN.out.2, ← HI.out.1, HQ.out.1, HQ.out.2, if_neg (show ¬ d % 2 = 1 by have := HD.out.1; omega), if_neg (show ¬ d / 2 = 1 by have := HD.out.2; omega)]; rfl
          have hb2 : Below w.heap.size w w2 := by rw [HH.out.2.2]; exact (HP.out.2.alloc hsz _).drew
          refine ⟨j + 1, by omega, ?_, by rw [pcells_succ, hq]; exact hown5, ?_⟩
          · have := HI.out.1
            rw [Nat.succ_mul, ← this]; congr 1
          · exact (hb2.alloc (by first | omega | (simp [World.setCell]; omega) | (simp [World.setCell, hs2]; omega)) _).grown hg5 (by first | omega | (simp [World.setCell]; omega) | (simp [World.setCell, hs2]; omega)) (fun k hk => (HP.out.1.lt k hk).1)
        case measure => simp [intOf]; omega
      · have b1' : bits BinOp.and IntKind.i64 (d : Int) 1 = 0 := b1
        have b2' : bits BinOp.and IntKind.i64 (d : Int) 2 = 2 := b2
        clear b1 b2
        have l4 : I + wd - 1 < n := by omega
        have e3 := (hsame g (by omega) (I + wd - 1)).trans (HI.out.2 (I + wd - 1) l4)
        generalize hx3 : xs.getD (I + wd - 1) 0 = x3 at e3
        have hx3' := Lib.hid hx3; clear hx3
        have m0 : (0 : Int) ≤ (I : Int) + wd - 1 := by omega
        have m1 : (I : Int) + wd - 1 < (n : Int) := by omega
        have m2 : ((I : Int) + wd - 1).toNat = I + wd - 1 := by omega
        go_wp2_with (at_builtin; refine wpList_append_own _ rfl _ _ 142 rfl w.heap.size 171 i0 _ 4 32 Tryz.underlying142 hi hz0 hz1 hz2 rfl (by decide) _ _ _ rfl (HK.out _ (fun k hk => (Below.heap_alloc _ _ _ (by first | omega | exact hs2 | (simp [World.setCell]; omega) | (simp [World.setCell, hs2]; omega) | simp [World.setCell, hs2])).trans ((Below.heap_setCell _ _ _ _ (by show k ≠ wr.heap.size; omega)).trans (hkeep k hk)))) ⟨wr.heap.size + 1, 0, none⟩ 1 1 [_, _, _, _] rfl rfl (cells_lit4 _ _ _ _ _ _ _ (by first | omega | exact hs2 | (simp [World.setCell]; omega) | (simp [World.setCell, hs2]; omega) | simp [World.setCell, hs2])) (by intro u hu; simp at hu; rcases hu with rfl | rfl | rfl | rfl <;> rfl) (by unfold maxLen; omega) (by omega) (by first | omega | exact hs2 | (simp [World.setCell]; omega) | (simp [World.setCell, hs2]; omega) | simp [World.setCell, hs2]) ?_; intro v1 w5 hown5 hg5 _)
        go_roundw
        case rel =>
          go_light
          have hq : fcells (quad d xs j) = [.float .f64 x0, .float .f64 x1, .float .f64 0, .float .f64 x3] := by
            unfold quad
            rw [← HN.out.2, ← HI.out.1, HQ.out.1, HQ.out.2, if_neg (show ¬ d % 2 = 1 by have := HD.out.1; omega), if_pos HD.out.2, hx3'.out]; rfl
          have hb2 : Below w.heap.size w w2 := by rw [HH.out.2.2]; exact (HP.out.2.alloc hsz _).drew
          refine ⟨j + 1, by omega, ?_, by rw [pcells_succ, hq]; exact hown5, ?_⟩
          · have := HI.out.1
            rw [Nat.succ_mul, ← this]; congr 1
          · exact ((hb2.setCell (p := ⟨wr.heap.size, 3, none⟩) hsz _).alloc (by first | omega | (simp [World.setCell]; omega) | (simp [World.setCell, hs2]; omega)) _).grown hg5 (by first | omega | (simp [World.setCell]; omega) | (simp [World.setCell, hs2]; omega)) (fun k hk => (HP.out.1.lt k hk).1)
        case measure => simp [intOf]; omega
      · have b1' : bits BinOp.and IntKind.i64 (d : Int) 1 = 1 := b1
        have b2' : bits BinOp.and IntKind.i64 (d : Int) 2 = 0 := b2
        clear b1 b2
        have l3 : I + 2 < n := by have := HM.out.1 rfl; omega
        have e2 := (hsame g (by omega) (I + 2)).trans (HI.out.2 (I + 2) l3)
        generalize hx2 : xs.getD (I + 2) 0 = x2 at e2
        have hx2' := Lib.hid hx2; clear hx2
        have j0 : (0 : Int) ≤ (I : Int) + 2 := by omega
        have j1 : (I : Int) + 2 < (n : Int) := by omega
        have j2 : ((I : Int) + 2).toNat = I + 2 := by omega
        go_wp2_with (at_builtin; refine wpList_append_own _ rfl _ _ 142 rfl w.heap.size 171 i0 _ 4 32 Tryz.underlying142 hi hz0 hz1 hz2 rfl (by decide) _ _ _ rfl (HK.out _ (fun k hk => (Below.heap_alloc _ _ _ (by first | omega | exact hs2 | (simp [World.setCell]; omega) | (simp [World.setCell, hs2]; omega) | simp [World.setCell, hs2])).trans ((Below.heap_setCell _ _ _ _ (by show k ≠ wr.heap.size; omega)).trans (hkeep k hk)))) ⟨wr.heap.size + 1, 0, none⟩ 1 1 [_, _, _, _] rfl rfl (cells_lit4 _ _ _ _ _ _ _ (by first | omega | exact hs2 | (simp [World.setCell]; omega) | (simp [World.setCell, hs2]; omega) | simp [World.setCell, hs2])) (by intro u hu; simp at hu; rcases hu with rfl | rfl | rfl | rfl <;> rfl) (by unfold maxLen; omega) (by omega) (by first | omega | exact hs2 | (simp [World.setCell]; omega) | (simp [World.setCell, hs2]; omega) | simp [World.setCell, hs2]) ?_; intro v1 w5 hown5 hg5 _)
        go_roundw
        case rel =>
          go_light
          have hq : fcells (quad d xs j) = [.float .f64 x0, .float .f64 x1, .float .f64 x2, .float .f64 0] := by
            unfold quad
            rw [← HN.out.2, ← HI.out.1, HQ.out.1, HQ.out.2, if_pos HD.out.1, if_neg (show ¬ d / 2 = 1 by have := HD.out.2; omega), hx2'.out]; rfl
          have hb2 : Below w.heap.size w w2 := by rw [HH.out.2.2]; exact (HP.out.2.alloc hsz _).drew
          refine ⟨j + 1, by omega, ?_, by rw [pcells_succ, hq]; exact hown5, ?_⟩
          · have := HI.out.1
            rw [Nat.succ_mul, ← this]; congr 1
          · exact ((hb2.setCell (p := ⟨wr.heap.size, 2, none⟩) hsz _).alloc (by first | omega | (simp [World.setCell]; omega) | (simp [World.setCell, hs2]; omega)) _).grown hg5 (by first | omega | (simp [World.setCell]; omega) | (simp [World.setCell, hs2]; omega)) (fun k hk => (HP.out.1.lt k hk).1)
        case measure => simp [intOf]; omega
      · have b1' : bits BinOp.and IntKind.i64 (d : Int) 1 = 1 := b1
        have b2' : bits BinOp.and IntKind.i64 (d : Int) 2 = 2 := b2
        clear b1 b2
        have l3 : I + 2 < n := by have := HM.out.1 rfl; omega
        have e2 := (hsame g (by omega) (I + 2)).trans (HI.out.2 (I + 2) l3)
        generalize hx2 : xs.getD (I + 2) 0 = x2 at e2
        have hx2' := Lib.hid hx2; clear hx2
        have j0 : (0 : Int) ≤ (I : Int) + 2 := by omega
        have j1 : (I : Int) + 2 < (n : Int) := by omega
        have j2 : ((I : Int) + 2).toNat = I + 2 := by omega
        have l4 : I + wd - 1 < n := by omega
        have e3 := (hsame g (by omega) (I + wd - 1)).trans (HI.out.2 (I + wd - 1) l4)
        generalize hx3 : xs.getD (I + wd - 1) 0 = x3 at e3
        have hx3' := Lib.hid hx3; clear hx3
        have m0 : (0 : Int) ≤ (I : Int) + wd - 1 := by omega
        have m1 : (I : Int) + wd - 1 < (n : Int) := by omega
        have m2 : ((I : Int) + wd - 1).toNat = I + wd - 1 := by omega
        go_wp2_with (at_builtin; refine wpList_append_own _ rfl _ _ 142 rfl w.heap.size 171 i0 _ 4 32 Tryz.underlying142 hi hz0 hz1 hz2 rfl (by decide) _ _ _ rfl (HK.out _ (fun k hk => (Below.heap_alloc _ _ _ (by first | omega | exact hs2 | (simp [World.setCell]; omega) | (simp [World.setCell, hs2]; omega) | simp [World.setCell, hs2])).trans ((Below.heap_setCell _ _ _ _ (by show k ≠ wr.heap.size; omega)).trans ((Below.heap_setCell _ _ _ _ (by show k ≠ wr.heap.size; omega)).trans (hkeep k hk))))) ⟨wr.heap.size + 1, 0, none⟩ 1 1 [_, _, _, _] rfl rfl (cells_lit4 _ _ _ _ _ _ _ (by first | omega | exact hs2 | (simp [World.setCell]; omega) | (simp [World.setCell, hs2]; omega) | simp [World.setCell, hs2])) (by intro u hu; simp at hu; rcases hu with rfl | rfl | rfl | rfl <;> rfl) (by unfold maxLen; omega) (by omega) (by first | omega | exact hs2 | (simp [World.setCell]; omega) | (simp [World.setCell, hs2]; omega) | simp [World.setCell, hs2]) ?_; intro v1 w5 hown5 hg5 _)
        go_roundw
        case rel =>
          go_light
          have hq : fcells (quad d xs j) = [.float .f64 x0, .float .f64 x1, .float .f64 x2, .float .f64 x3] := by
            unfold quad
            rw [← HN.out.2, ← HI.out.1, HQ.out.1, HQ.out.2, if_pos HD.out.1, if_pos HD.out.2, hx2'.out, hx3'.out]; rfl
          have hb2 : Below w.heap.size w w2 := by rw [HH.out.2.2]; exact (HP.out.2.alloc hsz _).drew
          refine ⟨j + 1, by omega, ?_, by rw [pcells_succ, hq]; exact hown5, ?_⟩
          · have := HI.out.1
            rw [Nat.succ_mul, ← this]; congr 1
          · exact (((hb2.setCell (p := ⟨wr.heap.size, 2, none⟩) hsz _).setCell (p := ⟨wr.heap.size, 3, none⟩) hsz _).alloc (by first | omega | (simp [World.setCell]; omega) | (simp [World.setCell, hs2]; omega)) _).grown hg5 (by first | omega | (simp [World.setCell]; omega) | (simp [World.setCell, hs2]; omega)) (fun k hk => (HP.out.1.lt k hk).1)
        case measure => simp [intOf]; omega
    · have hjp : j = p := by omega
      subst hjp
      have hn := HN.out.1
      have HP := Lib.hid (And.intro hown hb)
      clear hown hb
      rw [← hn]
      go_wp2_with fail
      go_ret
      exact ⟨_, rfl, HP.out.1, (fun k hk => (HP.out.1.lt k hk).1), HP.out.2⟩
end Go.Proofs.YtblpcpkkjbkakaaGreatDoor
