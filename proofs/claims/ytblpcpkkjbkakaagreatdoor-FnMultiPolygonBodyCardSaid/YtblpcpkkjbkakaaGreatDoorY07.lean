/- Lemmas towards the seat's laws: 1 texts joined. -/
import Derived.Test.YtblpcpkkjbkakaaGreatDoorY06
import Derived.Lib.LazyBuf
import Derived.Lib.Hide
import Derived.StillTailTactics
/- The reader over a string. -/
namespace Go.Proofs.YtblpcpkkjbkakaaGreatDoor
open Go Go.RowKit
set_option linter.unusedVariables false
set_option linter.unusedSimpArgs false

/-- 'copy(dst, s)', s a string of whatever length: as many bytes go over as fit. -/
theorem run_copy_string_min {P : Program} (w : World) (dT sT ty elem : TypeId) (b o dLen dCap : Nat) (t : ByteArray) (n : Nat) (hn : n = Nat.min t.size dLen)
    (hu : P.underlying dT = some (.slice elem)) (hz : ∀ w, (Go.sizeOf elem).run P w = .ok 1 w)
    (hc : ∀ j, j < n → (w.cell? ⟨b, o + j, none⟩).isSome = true) (hf : ∀ j, j < n → w.frozen? ⟨b, o + j, none⟩ = false) :
    (Builtin.copy_ #[dT, sT] ty #[.slice (some ⟨b, o, none⟩) dLen dCap, .string t]).run P w = .ok (goInt n) (w.setCells b o ((t.data.toList.take n).map fun x => Value.int .u8 (x.toNat : Int))) := by
  subst hn
  have hl : ((t.data.toList.take (Nat.min t.size dLen)).map fun x => Value.int .u8 (x.toNat : Int)).length = Nat.min t.size dLen := by
    rw [List.length_map, List.length_take, ← Lib.size_eq]; exact Nat.min_eq_left (Nat.min_le_left _ _)
  have hst := run_storeCells_cells (P := P) b o ((t.data.toList.take (Nat.min t.size dLen)).map fun x => Value.int .u8 (x.toNat : Int)) 0 w (by rw [hl]; simpa using hc) (by rw [hl]; simpa using hf) (by
    intro v hv
    obtain ⟨x, _, rfl⟩ := List.mem_map.1 hv
    rfl)
  simp [Builtin.copy_, run_underlying hu, Builtin.lenOf, Builtin.firstCells, hz]
  rw [List.map_take, Nat.add_zero] at hst
  rw [hst]
  rfl

theorem info5 : (Tryz.prog.info? 5).map (fun i => (i.zero, i.size, i.bytes)) = some (some (.int .u8 0), 1, 1) := by kernel_rfl
theorem size5 : ∀ w, (Go.sizeOf 5).run Tryz.prog w = .ok 1 w := by
  obtain ⟨i0, hi, hz0, hz1, hz2⟩ := info_parts info5
  intro w
  simp [sizeOf, typeInfo, hi, hz1]

/-- The bytes of s from place i on, n of them. -/
def srow (s : ByteArray) (i n : Nat) : List Value := ((s.extract i s.size).data.toList.take n).map fun x => Value.int .u8 (x.toNat : Int)

def ReadPost (s : ByteArray) (rb b o i n : Nat) (w : World) (e : Ending) (w' : World) : Prop :=
  e = .returned (.tuple #[.int .i64 n, .nilIface]) ∧ ∃ d1 d2 d3, w' = (((((w.drewN d1).setCell ⟨rb, 2, none⟩ (.int .i64 (-1))).drewN d2).setCells b o (srow s i n)).drewN d3).setCell ⟨rb, 1, none⟩ (.int .i64 (i + n : Nat))

set_option maxRecDepth 100000 in
set_option maxHeartbeats 2000000 in
theorem read_more (s : ByteArray) (rb b o L C i n : Nat) (p : Int) (w : World) (hs : s.size ≤ 2000) (hL : L ≤ 1024) (hb : rb ≠ b)
    (c0 : w.cell? ⟨rb, 0, none⟩ = some (.string s)) (c1 : w.cell? ⟨rb, 1, none⟩ = some (.int .i64 i)) (c2 : w.cell? ⟨rb, 2, none⟩ = some (.int .i64 p))
    (f1 : w.frozen? ⟨rb, 1, none⟩ = false) (f2 : w.frozen? ⟨rb, 2, none⟩ = false) (hi : i < s.size) (hn : n = Nat.min (s.size - i) L)
    (hc : ∀ j, j < n → (w.cell? ⟨b, o + j, none⟩).isSome = true) (hf : ∀ j, j < n → w.frozen? ⟨b, o + j, none⟩ = false) :
    Calls Tryz.prog 204 #[.pointer (some ⟨rb, 0, none⟩), .slice (some ⟨b, o, none⟩) L C] w (ReadPost s rb b o i n w) := by
  have hn' : n = Nat.min (s.extract i s.size).size L := by rw [hn, size_ext]
  have hn1 : n ≤ L := by rw [hn]; exact Nat.min_le_right _ _
  have hn2 : i + n ≤ s.size := by have : n ≤ s.size - i := by rw [hn]; exact Nat.min_le_left _ _
                                  omega
  clear hn
  have HN := Lib.hid hn'; clear hn'
  go_enter Tryz.func204, Tryz.ntmps204
  go_wp2_with fail
  go_quiet (fail)
  go_wp2_with fail
  have c0' : ((w.drewN nq).setCell ⟨rb, 2, none⟩ (.int .i64 (-1))).cell? ⟨rb, 0, none⟩ = some (.string s) := by rw [World.cell?_setCell_other _ _ _ _ (by simp)]; exact c0
  have c1' : ((w.drewN nq).setCell ⟨rb, 2, none⟩ (.int .i64 (-1))).cell? ⟨rb, 1, none⟩ = some (.int .i64 i) := by rw [World.cell?_setCell_other _ _ _ _ (by simp)]; exact c1
  have f1' : ((w.drewN nq).setCell ⟨rb, 2, none⟩ (.int .i64 (-1))).frozen? ⟨rb, 1, none⟩ = false := by rw [World.frozen?_setCell]; exact f1
  have hc' : ∀ j, j < n → (((w.drewN nq).setCell ⟨rb, 2, none⟩ (.int .i64 (-1))).cell? ⟨b, o + j, none⟩).isSome = true := fun j hj => by rw [World.cell?_setCell_other _ _ _ _ (by simp [hb.symm])]; exact hc j hj
  have hf' : ∀ j, j < n → ((w.drewN nq).setCell ⟨rb, 2, none⟩ (.int .i64 (-1))).frozen? ⟨b, o + j, none⟩ = false := fun j hj => by rw [World.frozen?_setCell]; exact hf j hj
  obtain ⟨W, hW⟩ : ∃ W, (w.drewN nq).setCell ⟨rb, 2, none⟩ (.int .i64 (-1)) = W := ⟨_, rfl⟩
  rw [hW] at c0' c1' f1' ⊢
  simp only [hW] at hc' hf'
  have HW := Lib.hid hW; clear hW c0 c1 c2 f1 f2 hc hf
  have HC := Lib.hid hc'; clear hc'
  have HF := Lib.hid hf'; clear hf'
  go_still_tail 10, (by kernel_rfl)
  refine wpStill_step (fun K hK => ?_)
  go_simp
  rw [if_pos (show i ≤ s.size by omega)]
  refine ⟨rfl, hK _ ?_⟩
  clear hK K
  refine wpStill_nil ?_
  have hcp := run_copy_string_min (P := Tryz.prog) W.drew 85 9 3 5 b o L C (s.extract i s.size) n HN.out Tryz.underlying85 size5 HC.out HF.out
  have c1'' : (W.drew.setCells b o (srow s i n)).cell? ⟨rb, 1, none⟩ = some (.int .i64 i) := (World.cell?_setCells_out b _ o _ _ (fun h1 _ => absurd h1 hb)).trans c1'
  have f1'' : (W.drew.setCells b o (srow s i n)).frozen? ⟨rb, 1, none⟩ = false := (World.frozen?_setCells b _ o _ _).trans f1'
  change _ = Result.ok (goInt n) (W.drew.setCells b o (srow s i n)) at hcp
  change wpList _ _ _ _ _ W.drew
  obtain ⟨W3, hW3⟩ : ∃ W3, W.drew.setCells b o (srow s i n) = W3 := ⟨_, rfl⟩
  rw [hW3] at c1'' f1'' hcp
  obtain ⟨W2, hW2⟩ : ∃ W2, W.drew = W2 := ⟨_, rfl⟩
  rw [hW2] at hcp ⊢
  have HW2 := Lib.hid hW2; clear hW2
  have HW3 := Lib.hid hW3; clear hW3
  go_wp2_with fail
  go_light
  go_ret2
  refine ⟨rfl, nq, 1, 0, ?_⟩
  rw [← HW3.out, ← HW.out]
  rfl

theorem read_end (s : ByteArray) (rb L C i : Nat) (a : Option Addr) (ev : Value) (w : World) (hs : s.size ≤ 2000)
    (c0 : w.cell? ⟨rb, 0, none⟩ = some (.string s)) (c1 : w.cell? ⟨rb, 1, none⟩ = some (.int .i64 i)) (hE : w.cell? ⟨4, 0, none⟩ = some ev) (hi : s.size ≤ i) :
    Calls Tryz.prog 204 #[.pointer (some ⟨rb, 0, none⟩), .slice a L C] w fun e w' => e = .returned (.tuple #[.int .i64 0, ev]) ∧ ∃ d1 d2, w' = (w.drewN d1).drewN d2 := by
  go_enter Tryz.func204, Tryz.ntmps204
  go_wp2_with fail
  go_quiet (fail)
  go_wp2_with fail
  go_quiet (fail)
  go_wp2_with fail
  go_light
  go_ret2
  exact ⟨rfl, _, _, rfl⟩

end Go.Proofs.YtblpcpkkjbkakaaGreatDoor
