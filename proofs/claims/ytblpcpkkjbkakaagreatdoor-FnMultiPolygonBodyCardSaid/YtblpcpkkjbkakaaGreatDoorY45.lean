/- Lemmas towards the seat's laws: 4 texts joined. -/
import Derived.Test.YtblpcpkkjbkakaaGreatDoorY44
import Derived.Test.YtblpcpkkjbkakaaGreatDoorY43
/- The small functions over sequences, lines and polygons. -/
namespace Go.Proofs.YtblpcpkkjbkakaaGreatDoor
open Go Go.RowKit
set_option linter.unusedVariables false
set_option linter.unusedSimpArgs false
theorem dix0 (w : World) : (Instr.index 250 (.agg #[.int .i64 2, .int .i64 3, .int .i64 3, .int .i64 4]) (.int .u8 0)).run Tryz.prog w = .ok (.int .i64 2) w := by kernel_rfl
theorem dix1 (w : World) : (Instr.index 250 (.agg #[.int .i64 2, .int .i64 3, .int .i64 3, .int .i64 4]) (.int .u8 1)).run Tryz.prog w = .ok (.int .i64 3) w := by kernel_rfl
theorem dix2 (w : World) : (Instr.index 250 (.agg #[.int .i64 2, .int .i64 3, .int .i64 3, .int .i64 4]) (.int .u8 2)).run Tryz.prog w = .ok (.int .i64 3) w := by kernel_rfl
theorem dix3 (w : World) : (Instr.index 250 (.agg #[.int .i64 2, .int .i64 3, .int .i64 3, .int .i64 4]) (.int .u8 3)).run Tryz.prog w = .ok (.int .i64 4) w := by kernel_rfl
set_option maxRecDepth 100000 in
theorem dimn_any (d : Nat) (w : World) (hd : d < 4) : Calls Tryz.prog 142 #[.int .u8 d] w fun e w' => e = .returned (.int .i64 (wid d : Nat)) ∧ w = w' := by
  have e0 := dix0; have e1 := dix1; have e2 := dix2; have e3 := dix3
  obtain rfl | rfl | rfl | rfl : d = 0 ∨ d = 1 ∨ d = 2 ∨ d = 3 := by omega
  all_goals
    go_enter Tryz.func142, Tryz.ntmps142
    go_wp2_with fail
    go_ret
    exact ⟨rfl, rfl⟩
set_option maxRecDepth 100000 in
theorem sctype_any (d n c : Nat) (a : Option Addr) (w : World) : Calls Tryz.prog 108 #[.agg #[.int .u8 d, .slice a n c]] w fun e w' => e = .returned (.int .u8 d) ∧ Below w.heap.size w w' := by
  go_enter Tryz.func108, Tryz.ntmps108
  go_wp2_with fail
  go_ret
  exact ⟨rfl, (Below.refl _ _).alloc (Nat.le_refl _) _⟩
set_option maxRecDepth 100000 in
theorem lctype_any (d n c : Nat) (a : Option Addr) (w : World) : Calls Tryz.prog 107 #[.agg #[.int .u8 d, .slice a n c]] w fun e w' => e = .returned (.int .u8 d) ∧ Below w.heap.size w w' := by
  go_enter Tryz.func107, Tryz.ntmps107
  go_wp2_with (go_at_call 108; refine (sctype_any d n c a _).mono ?_; rintro e w' ⟨rfl, hb⟩)
  go_ret
  exact ⟨rfl, ((Below.refl _ _).alloc (Nat.le_refl _) _).trans (hb.mono (by simp))⟩
set_option maxRecDepth 100000 in
theorem pctype_any (d n c : Nat) (a : Option Addr) (w : World) : Calls Tryz.prog 61 #[.agg #[.slice a n c, .int .u8 d]] w fun e w' => e = .returned (.int .u8 d) ∧ Below w.heap.size w w' := by
  go_enter Tryz.func61, Tryz.ntmps61
  go_wp2_with fail
  go_ret
  exact ⟨rfl, (Below.refl _ _).alloc (Nat.le_refl _) _⟩
set_option maxRecDepth 100000 in
theorem mctype_any (d n c : Nat) (a : Option Addr) (w : World) : Calls Tryz.prog 34 #[.agg #[.slice a n c, .int .u8 d]] w fun e w' => e = .returned (.int .u8 d) ∧ Below w.heap.size w w' := by
  go_enter Tryz.func34, Tryz.ntmps34
  go_wp2_with fail
  go_ret
  exact ⟨rfl, (Below.refl _ _).alloc (Nat.le_refl _) _⟩
set_option maxRecDepth 100000 in
theorem numPolys_any (d n c : Nat) (a : Option Addr) (w : World) : Calls Tryz.prog 35 #[.agg #[.slice a n c, .int .u8 d]] w fun e w' => e = .returned (.int .i64 n) ∧ Below w.heap.size w w' := by
  go_enter Tryz.func35, Tryz.ntmps35
  go_wp2_with fail
  go_ret
  exact ⟨rfl, (Below.refl _ _).alloc (Nat.le_refl _) _⟩
theorem heap_new (w : World) (o : Obj) : (w.alloc o).heap[w.heap.size]? = some o := by show (w.heap.push o)[w.heap.size]? = some o; simp
theorem heap_new2 (w : World) (o o2 : Obj) : ((w.alloc o).alloc o2).heap[w.heap.size + 1]? = some o2 := by have := heap_new (w.alloc o) o2; simpa using this
theorem below2 (w : World) (o o2 : Obj) : Below w.heap.size w ((w.alloc o).alloc o2) := ((Below.refl _ _).alloc (Nat.le_refl _) _).alloc (by simp) _
/-- A block with its cells. -/
def Rw (m : Nat) (cs : Array Value) (t : TypeId) (w : World) : Prop := w.heap[m]? = some (.cells cs t (0, 0))
theorem Rw.lt {m : Nat} {cs : Array Value} {t : TypeId} {w : World} (h : Rw m cs t w) : m < w.heap.size := (Array.getElem?_eq_some_iff.1 h).1
theorem Rw.cell {m : Nat} {cs : Array Value} {t : TypeId} {w : World} (h : Rw m cs t w) (i : Nat) {v : Value} (hv : cs[i]? = some v) : w.cell? ⟨m, i, none⟩ = some v := by
  have h' : w.heap[m]? = _ := h
  simp [World.cell?, h', hv]
theorem Rw.froz {m : Nat} {cs : Array Value} {t : TypeId} {w : World} (h : Rw m cs t w) (i : Nat) : w.frozen? ⟨m, i, none⟩ = false := by
  have h' : w.heap[m]? = _ := h
  simp [World.frozen?, h']
theorem Rw.old {m b : Nat} {cs : Array Value} {t : TypeId} {w w' : World} (h : Rw m cs t w) (hb : Below b w w') (hm : m < b) : Rw m cs t w' := (hb.block m hm).trans h
theorem Rw.kp {m : Nat} {cs : Array Value} {t : TypeId} {w w' : World} (h : Rw m cs t w) (hb : w'.heap[m]? = w.heap[m]?) : Rw m cs t w' := hb.trans h
theorem Rw.set {m : Nat} {cs : Array Value} {t : TypeId} {w : World} (h : Rw m cs t w) (i : Nat) (v : Value) : Rw m (cs.setIfInBounds i v) t (w.setCell ⟨m, i, none⟩ v) := by
  have h' : w.heap[m]? = _ := h
  simp [Rw, World.setCell, Array.getElem?_modify, h']
theorem Rw.new (w : World) (cs : Array Value) (t : TypeId) : Rw w.heap.size cs t (w.alloc (.cells cs t)) := heap_new w _
theorem Rw.alloc {m : Nat} {cs : Array Value} {t : TypeId} {w : World} (h : Rw m cs t w) (o : Obj) : Rw m cs t (w.alloc o) := (Below.heap_alloc _ _ _ h.lt).trans h
theorem Rw.drew {m : Nat} {cs : Array Value} {t : TypeId} {w : World} (h : Rw m cs t w) : Rw m cs t w.drew := h
set_option maxRecDepth 100000 in
theorem coords_any (d n c : Nat) (a : Option Addr) (w : World) : Calls Tryz.prog 84 #[.agg #[.int .u8 d, .slice a n c]] w fun e w' => e = .returned (.agg #[.int .u8 d, .slice a n c]) ∧ Below w.heap.size w w' := by
  go_enter Tryz.func84, Tryz.ntmps84
  go_wp2_with fail
  exact bodyPost_ret_by (results_cell_row rfl _ _ (w.heap.size + 1) 124 _ (0, 0) _ rfl (heap_new2 _ _ _) Tryz.underlying124 rfl (by kernel_rfl)) rfl ⟨rfl, below2 _ _ _⟩
set_option maxRecDepth 100000 in
theorem is3_any (d : Nat) (w : World) (hd : d < 4) : Calls Tryz.prog 111 #[.int .u8 d] w fun e w' => e = .returned (.bool (d % 2 == 1)) ∧ w = w' := by
  obtain rfl | rfl | rfl | rfl : d = 0 ∨ d = 1 ∨ d = 2 ∨ d = 3 := by omega
  all_goals
    go_enter Tryz.func111, Tryz.ntmps111
    go_wp2_with fail
    go_ret
    exact ⟨rfl, rfl⟩
set_option maxRecDepth 100000 in
theorem isM_any (d : Nat) (w : World) (hd : d < 4) : Calls Tryz.prog 112 #[.int .u8 d] w fun e w' => e = .returned (.bool (d / 2 == 1)) ∧ w = w' := by
  obtain rfl | rfl | rfl | rfl : d = 0 ∨ d = 1 ∨ d = 2 ∨ d = 3 := by omega
  all_goals
    go_enter Tryz.func112, Tryz.ntmps112
    go_wp2_with fail
    go_ret
    exact ⟨rfl, rfl⟩
set_option maxRecDepth 100000 in
theorem dimOf_any (d : Nat) (w : World) (hd : d < 4) : Calls Tryz.prog 21 #[.int .i64 d] w fun e w' => e = .returned (.int .u8 d) ∧ w = w' := by
  obtain rfl | rfl | rfl | rfl : d = 0 ∨ d = 1 ∨ d = 2 ∨ d = 3 := by omega
  all_goals
    go_enter Tryz.func21, Tryz.ntmps21
    go_wp2_with fail
    go_ret
    exact ⟨rfl, rfl⟩
set_option maxRecDepth 100000 in
theorem pKind6 (w : World) : Calls Tryz.prog 17 #[.int .i64 6] w fun e w' => e = .returned (.string ⟨#[77, 85, 76, 84, 73, 80, 79, 76, 89, 71, 79, 78]⟩) ∧ w = w' := by
  go_enter Tryz.func17, Tryz.ntmps17
  go_wp2_with fail
  go_ret
  exact ⟨rfl, rfl⟩
set_option maxRecDepth 100000 in
theorem xTag_any (d : Nat) (w : World) (hd : d < 4) : Calls Tryz.prog 18 #[.int .i64 d] w fun e w' => e = .returned (.string ⟨(xTagL d).toArray⟩) ∧ Below w.heap.size w w' := by
  obtain rfl | rfl | rfl | rfl : d = 0 ∨ d = 1 ∨ d = 2 ∨ d = 3 := by omega
  all_goals
    go_enter Tryz.func18, Tryz.ntmps18
    go_wp2_with fail
    go_ret
    exact ⟨rfl, (Below.refl _ _).alloc (Nat.le_refl _) _⟩
set_option maxRecDepth 100000 in
theorem seqForce_same (d n c : Nat) (a : Option Addr) (w : World) : Calls Tryz.prog 141 #[.agg #[.int .u8 d, .slice a n c], .int .u8 d] w fun e w' => e = .returned (.agg #[.int .u8 d, .slice a n c]) ∧ Below w.heap.size w w' := by
  go_enter Tryz.func141, Tryz.ntmps141
  go_wp2_with fail
  exact bodyPost_ret_by (results_cell_row rfl _ _ (w.heap.size + 1) 124 _ (0, 0) _ rfl (heap_new2 _ _ _) Tryz.underlying124 rfl (by kernel_rfl)) rfl ⟨rfl, below2 _ _ _⟩
set_option maxRecDepth 100000 in
theorem polyN_any (d d2 g n c j n1 c1 : Nat) (a1 : Option Addr) (w : World) (hj : j < n) (hg : g < w.heap.size) (c0 : w.cell? ⟨g, j * 2, none⟩ = some (.slice a1 n1 c1)) (c1' : w.cell? ⟨g, j * 2 + 1, none⟩ = some (.int .u8 d2)) : Calls Tryz.prog 37 #[.agg #[.slice (some ⟨g, 0, none⟩) n c, .int .u8 d], .int .i64 j] w fun e w' => e = .returned (.agg #[.slice a1 n1 c1, .int .u8 d2]) ∧ Below w.heap.size w w' := by
  go_enter Tryz.func37, Tryz.ntmps37
  go_wp2_with fail
  exact bodyPost_ret_by (results_cell_row rfl _ _ (w.heap.size + 1) 81 _ (0, 0) _ rfl (heap_new2 _ _ _) Tryz.underlying81 rfl (by kernel_rfl)) rfl ⟨rfl, below2 _ _ _⟩
set_option maxRecDepth 100000 in
theorem lineForce_same (d n c : Nat) (a : Option Addr) (w : World) : Calls Tryz.prog 106 #[.agg #[.int .u8 d, .slice a n c], .int .u8 d] w fun e w' => e = .returned (.agg #[.int .u8 d, .slice a n c]) ∧ Below w.heap.size w w' := by
  go_enter Tryz.func106, Tryz.ntmps106
  have hn := (Rw.new (w.alloc (.cells #[.int .u8 d, .slice a n c] 126)) #[.int .u8 0, .slice none 0 0] 126)
  have hb0 := below2 w (.cells #[.int .u8 d, .slice a n c] 126) (.cells #[.int .u8 0, .slice none 0 0] 126)
  have hs0 : (w.alloc (.cells #[.int .u8 d, .slice a n c] 126)).heap.size = w.heap.size + 1 := by simp
  rw [hs0] at hn
  have HN := Lib.hid (And.intro hn hb0); clear hn hb0 hs0
  go_wp2_with (go_at_call 141; refine (seqForce_same d n c a _).mono ?_; rintro e w' ⟨rfl, hb⟩; have hR := HN.out.1.old hb (by simp); have c0 := hR.cell 0 rfl; have c1 := hR.cell 1 rfl; have z0 := hR.froz 0; have z1 := hR.froz 1; replace hR := Lib.hid (And.intro hR hb); clear hb)
  refine bodyPost_ret_by (results_cell_row rfl _ _ (w.heap.size + 1) 126 _ (0, 0) _ rfl ((hR.out.1.set 0 _).set 1 _) Tryz.underlying126 rfl (by kernel_rfl)) rfl ⟨rfl, ?_⟩
  exact ((HN.out.2.trans (hR.out.2.mono (by simp; omega))).setCell (p := ⟨w.heap.size + 1, 0, none⟩) (by simp) _).setCell (p := ⟨w.heap.size + 1, 1, none⟩) (by simp) _
set_option maxRecDepth 100000 in
theorem seqLen_any (d p c : Nat) (a : Option Addr) (w : World) (hd : d < 4) (hp : p ≤ 1000000) : Calls Tryz.prog 109 #[.agg #[.int .u8 d, .slice a (p * wid d) c]] w fun e w' => e = .returned (.int .i64 p) ∧ Below w.heap.size w w' := by
  have hdn := fun W => dimn_any d W hd
  have hw0 : 0 < wid d := by unfold wid; omega
  generalize wid d = wd at hdn hw0
  have hq : ((p : Int) * (wd : Int)).tdiv (wd : Int) = p := Int.mul_tdiv_cancel _ (by omega)
  have HD := Lib.hid hdn; clear hdn
  go_enter Tryz.func109, Tryz.ntmps109
  go_wp2_with fail
  go_quiet (first | (refine (HD.out _).mono ?_; rintro e w' ⟨rfl, rfl⟩; exact ⟨rfl, _, rfl⟩))
  go_wp2_with fail
  go_ret
  refine ⟨?_, ?_⟩
  · simp
  · exact below_drewN ((Below.refl _ _).alloc (Nat.le_refl _) _) _
set_option maxRecDepth 100000 in
set_option maxHeartbeats 4000000 in
theorem seqGet_any (d g n c j x0 x1 xz xm : Nat) (w : World) (hd : d < 4) (hI : j * wid d + wid d ≤ n) (hn : n ≤ 1000000) (hg : g < w.heap.size) (c0 : w.cell? ⟨g, j * wid d, none⟩ = some (.float .f64 x0)) (c1 : w.cell? ⟨g, j * wid d + 1, none⟩ = some (.float .f64 x1))
    (cz : d % 2 = 1 → w.cell? ⟨g, j * wid d + 2, none⟩ = some (.float .f64 xz)) (cm : d / 2 = 1 → w.cell? ⟨g, j * wid d + wid d - 1, none⟩ = some (.float .f64 xm)) (hz : d % 2 = 0 → xz = 0) (hm : d / 2 = 0 → xm = 0) :
    Calls Tryz.prog 110 #[.agg #[.int .u8 d, .slice (some ⟨g, 0, none⟩) n c], .int .i64 j] w fun e w' => e = .returned (.agg #[.float .f64 x0, .float .f64 x1, .float .f64 xz, .float .f64 xm, .int .u8 d]) ∧ Below w.heap.size w w' := by
  have hdn := fun W => dimn_any d W hd
  have hw0 : 2 ≤ wid d ∧ wid d ≤ 4 := by unfold wid; omega
  obtain ⟨wd, hwd⟩ : ∃ wd, wd = wid d := ⟨_, rfl⟩
  rw [← hwd] at hdn hw0 hI c0 c1 cz cm
  obtain ⟨I, hI'⟩ : ∃ I, I = j * wd := ⟨_, rfl⟩
  rw [← hI'] at hI c0 c1 cz cm
  have iw0 : IntKind.i64.wrap ((j : Int) * (wd : Int)) = (I : Int) := by rw [← Int.natCast_mul, ← hI', IntKind.wrap_i64]; omega
  have iw1 : IntKind.i64.wrap ((I : Int) + 1) = (I : Int) + 1 := by rw [IntKind.wrap_i64]; omega
  have i0' : (0 : Int) ≤ (I : Int) := by omega
  have i1' : (I : Int) < (n : Int) := by omega
  have i2' : (0 : Int) ≤ (I : Int) + 1 := by omega
  have i3' : (I : Int) + 1 < (n : Int) := by omega
  have i4' : ((I : Int) + 1).toNat = I + 1 := by omega
  have HI := Lib.hid hI'
  have HW := Lib.hid (And.intro hwd (And.intro cz (And.intro cm (And.intro hz hm))))
  have HD := Lib.hid hdn; clear hdn hwd cz cm hz hm hI'
  go_enter Tryz.func110, Tryz.ntmps110
  go_wp2_with (go_at_call 142; refine (HD.out _).mono ?_; rintro e w' ⟨rfl, rfl⟩)
  obtain ⟨W, hW⟩ : ∃ W, W = (w.alloc (.cells #[.int .u8 d, .slice (some ⟨g, 0, none⟩) n c] 124)).alloc (.cells #[.float .f64 0, .float .f64 0, .float .f64 0, .float .f64 0, .int .u8 0] 178) := ⟨_, rfl⟩
  rw [← hW]
  have hWs : W.heap.size = w.heap.size + 2 := by rw [hW]; simp
  have hWb : Below w.heap.size w W := by rw [hW]; exact below2 _ _ _
  have r0 : Rw w.heap.size #[.int .u8 d, .slice (some ⟨g, 0, none⟩) n c] 124 W := by rw [hW]; exact (Rw.new _ _ _).alloc _
  have r1 : Rw (w.heap.size + 1) #[.float .f64 0, .float .f64 0, .float .f64 0, .float .f64 0, .int .u8 0] 178 W := by rw [hW]; exact heap_new2 _ _ _
  clear hW
  replace c0 := (hWb.cell (p := ⟨g, I, none⟩) hg).trans c0
  replace c1 := (hWb.cell (p := ⟨g, I + 1, none⟩) hg).trans c1
  have b0 : W.cell? ⟨w.heap.size, 0, none⟩ = some (.int .u8 d) := r0.cell 0 rfl
  have b1 : W.cell? ⟨w.heap.size, 1, none⟩ = some (.slice (some ⟨g, 0, none⟩) n c) := r0.cell 1 rfl
  have H0 := Lib.hid (And.intro hWb (And.intro r0 r1))
  clear hWb r0 r1
  have hng : W.heap.size ≠ g := by omega
  have hnb : W.heap.size ≠ w.heap.size := by omega
  have HS := Lib.hid hWs; clear hWs
  generalize hB : w.heap.size = N at *
  go_region_held3 (fun w' => w'.cell? ⟨g, I, none⟩ = some (.float .f64 x0) ∧ w'.cell? ⟨g, I + 1, none⟩ = some (.float .f64 x1) ∧ w'.cell? ⟨N, 0, none⟩ = some (.int .u8 d) ∧ w'.cell? ⟨N, 1, none⟩ = some (.slice (some ⟨g, 0, none⟩) n c)) (go_keep) (fail)
  obtain ⟨M, hM⟩ : ∃ M, M = W.heap.size := ⟨_, rfl⟩
  obtain ⟨W2, hW2⟩ : ∃ W2, W2 = (W.alloc (.cells #[.float .f64 x0, .float .f64 x1, .float .f64 0, .float .f64 0, .int .u8 d] 178)).drew := ⟨_, rfl⟩
  have r2 : Rw M #[.float .f64 x0, .float .f64 x1, .float .f64 0, .float .f64 0, .int .u8 d] 178 W2 := by rw [hW2, hM]; exact (Rw.new _ _ _).drew
  have hb2 : Below W.heap.size W W2 := by rw [hW2]; exact ((Below.refl _ _).alloc (Nat.le_refl _) _).drew
  rw [← hW2, ← hM]
  have hMN : M = N + 2 := by rw [hM]; exact HS.out
  have r0 := H0.out.2.1.old hb2 (by have := HS.out; omega)
  have r1 := H0.out.2.2.old hb2 (by have := HS.out; omega)
  have hbw : Below N w W2 := H0.out.1.trans (hb2.mono (by have := HS.out; omega))
  have gz : ∀ i v, w.cell? ⟨g, i, none⟩ = some v → W2.cell? ⟨g, i, none⟩ = some v := fun i v h => (hbw.cell (p := ⟨g, i, none⟩) hg).trans h
  have k0 : W2.cell? ⟨N, 0, none⟩ = some (.int .u8 d) := r0.cell 0 rfl
  have k1 : W2.cell? ⟨N, 1, none⟩ = some (.slice (some ⟨g, 0, none⟩) n c) := r0.cell 1 rfl
  have m0 : W2.cell? ⟨M, 0, none⟩ = some (.float .f64 x0) := r2.cell 0 rfl
  have m1 : W2.cell? ⟨M, 1, none⟩ = some (.float .f64 x1) := r2.cell 1 rfl
  have m2 : W2.cell? ⟨M, 2, none⟩ = some (.float .f64 0) := r2.cell 2 rfl
  have m3 : W2.cell? ⟨M, 3, none⟩ = some (.float .f64 0) := r2.cell 3 rfl
  have m4 : W2.cell? ⟨M, 4, none⟩ = some (.int .u8 d) := r2.cell 4 rfl
  have o0 : W2.cell? ⟨N + 1, 0, none⟩ = some (.float .f64 0) := r1.cell 0 rfl
  have o1 : W2.cell? ⟨N + 1, 1, none⟩ = some (.float .f64 0) := r1.cell 1 rfl
  have o2 : W2.cell? ⟨N + 1, 2, none⟩ = some (.float .f64 0) := r1.cell 2 rfl
  have o3 : W2.cell? ⟨N + 1, 3, none⟩ = some (.float .f64 0) := r1.cell 3 rfl
  have o4 : W2.cell? ⟨N + 1, 4, none⟩ = some (.int .u8 0) := r1.cell 4 rfl
  have fm2 := r2.froz 2; have fm3 := r2.froz 3
  have f0 := r1.froz 0; have f1 := r1.froz 1; have f2 := r1.froz 2; have f3 := r1.froz 3; have f4 := r1.froz 4
  have hne1 : M ≠ N + 1 := by omega
  have hne2 : M ≠ N := by omega
  have hne3 : M ≠ g := by omega
  have HZ := Lib.hid (And.intro r0 (And.intro r1 (And.intro r2 (And.intro hbw (And.intro gz hMN)))))
  have HBN := Lib.hid hB
  clear r0 r1 r2 hbw gz hMN hb2 hW2 hM HS H0 hB c0 c1 b0 b1 hng hnb
  have hfin : ∀ W3, Rw (N + 1) #[.float .f64 0, .float .f64 0, .float .f64 0, .float .f64 0, .int .u8 0] 178 W3 → Below N w W3 → ∀ a b c e f, Rw (N + 1) #[a, b, c, e, f] 178 (((((W3.setCell ⟨N + 1, 0, none⟩ a).setCell ⟨N + 1, 1, none⟩ b).setCell ⟨N + 1, 2, none⟩ c).setCell ⟨N + 1, 3, none⟩ e).setCell ⟨N + 1, 4, none⟩ f) ∧
      Below N w (((((W3.setCell ⟨N + 1, 0, none⟩ a).setCell ⟨N + 1, 1, none⟩ b).setCell ⟨N + 1, 2, none⟩ c).setCell ⟨N + 1, 3, none⟩ e).setCell ⟨N + 1, 4, none⟩ f) := fun W3 h hb a b c e f =>
    ⟨((((h.set 0 a).set 1 b).set 2 c).set 3 e).set 4 f, ((((hb.setCell (p := ⟨N + 1, 0, none⟩) (by simp) _).setCell (p := ⟨N + 1, 1, none⟩) (by simp) _).setCell (p := ⟨N + 1, 2, none⟩) (by simp) _).setCell (p := ⟨N + 1, 3, none⟩) (by simp) _).setCell (p := ⟨N + 1, 4, none⟩) (by simp) _⟩
  have HF := Lib.hid hfin; clear hfin
  obtain rfl | rfl | rfl | rfl : d = 0 ∨ d = 1 ∨ d = 2 ∨ d = 3 := by omega
  · have hz := HW.out.2.2.2.1
    have hm := HW.out.2.2.2.2
    have hwd := HW.out.1
    have hz := hz rfl
    subst hz
    have hm := hm rfl
    subst hm
    have hwv : wd = 2 := hwd
    clear HD hwd hwv
    go_wp2_with fail
    have hq := HF.out W2 HZ.out.2.1 HZ.out.2.2.2.1 (.float .f64 x0) (.float .f64 x1) (.float .f64 0) (.float .f64 0) (.int .u8 ((0 : Nat) : Int))
    exact bodyPost_ret_by (results_cell_row rfl _ _ (N + 1) 178 _ (0, 0) _ rfl hq.1 Tryz.underlying178 rfl (by kernel_rfl)) rfl ⟨rfl, by rw [HBN.out]; exact hq.2⟩
  · have hz := HW.out.2.2.2.1
    have hm := HW.out.2.2.2.2
    have hwd := HW.out.1
    have e2 := HZ.out.2.2.2.2.1 _ _ (HW.out.2.1 rfl)
    have hm := hm rfl
    subst hm
    have hwv : wd = 3 := hwd
    have j0 : (0 : Int) ≤ (I : Int) + 2 := by omega
    have j1 : (I : Int) + 2 < (n : Int) := by omega
    have j2 : ((I : Int) + 2).toNat = I + 2 := by omega
    have iw2 : IntKind.i64.wrap ((I : Int) + 2) = (I : Int) + 2 := by rw [IntKind.wrap_i64]; omega
    clear HD hwd hwv
    go_wp2_with fail
    have hq := HF.out (W2.setCell ⟨M, 2, none⟩ (.float .f64 xz)) (Rw.kp HZ.out.2.1 (Below.heap_setCell _ _ _ _ (by show N + 1 ≠ M; omega))) (Below.setCell HZ.out.2.2.2.1 (p := ⟨M, 2, none⟩) (by show N ≤ M; have := HZ.out.2.2.2.2.2; omega) _) (.float .f64 x0) (.float .f64 x1) (.float .f64 xz) (.float .f64 0) (.int .u8 ((1 : Nat) : Int))
    exact bodyPost_ret_by (results_cell_row rfl _ _ (N + 1) 178 _ (0, 0) _ rfl hq.1 Tryz.underlying178 rfl (by kernel_rfl)) rfl ⟨rfl, by rw [HBN.out]; exact hq.2⟩
  · have hz := HW.out.2.2.2.1
    have hm := HW.out.2.2.2.2
    have hwd := HW.out.1
    have hz := hz rfl
    subst hz
    have e3 := HZ.out.2.2.2.2.1 _ _ (HW.out.2.2.1 rfl)
    have hwv : wd = 3 := hwd
    rw [hwv, show I + 3 - 1 = I + 2 by omega] at e3
    have j0 : (0 : Int) ≤ (I : Int) + 2 := by omega
    have j1 : (I : Int) + 2 < (n : Int) := by omega
    have j2 : ((I : Int) + 2).toNat = I + 2 := by omega
    have iw2 : IntKind.i64.wrap ((I : Int) + 2) = (I : Int) + 2 := by rw [IntKind.wrap_i64]; omega
    clear HD hwd hwv
    go_wp2_with fail
    have hq := HF.out (W2.setCell ⟨M, 3, none⟩ (.float .f64 xm)) (Rw.kp HZ.out.2.1 (Below.heap_setCell _ _ _ _ (by show N + 1 ≠ M; omega))) (Below.setCell HZ.out.2.2.2.1 (p := ⟨M, 3, none⟩) (by show N ≤ M; have := HZ.out.2.2.2.2.2; omega) _) (.float .f64 x0) (.float .f64 x1) (.float .f64 0) (.float .f64 xm) (.int .u8 ((2 : Nat) : Int))
    exact bodyPost_ret_by (results_cell_row rfl _ _ (N + 1) 178 _ (0, 0) _ rfl hq.1 Tryz.underlying178 rfl (by kernel_rfl)) rfl ⟨rfl, by rw [HBN.out]; exact hq.2⟩
  · have hz := HW.out.2.2.2.1
    have hm := HW.out.2.2.2.2
    have hwd := HW.out.1
    have e2 := HZ.out.2.2.2.2.1 _ _ (HW.out.2.1 rfl)
    have e3 := HZ.out.2.2.2.2.1 _ _ (HW.out.2.2.1 rfl)
    have hwv : wd = 4 := hwd
    rw [hwv, show I + 4 - 1 = I + 3 by omega] at e3
    have j0 : (0 : Int) ≤ (I : Int) + 2 := by omega
    have j1 : (I : Int) + 2 < (n : Int) := by omega
    have j2 : ((I : Int) + 2).toNat = I + 2 := by omega
    have iw2 : IntKind.i64.wrap ((I : Int) + 2) = (I : Int) + 2 := by rw [IntKind.wrap_i64]; omega
    have l0 : (0 : Int) ≤ (I : Int) + 3 := by omega
    have l1 : (I : Int) + 3 < (n : Int) := by omega
    have l2 : ((I : Int) + 3).toNat = I + 3 := by omega
    have iw3 : IntKind.i64.wrap ((I : Int) + 3) = (I : Int) + 3 := by rw [IntKind.wrap_i64]; omega
    clear HD hwd hwv
    go_wp2_with fail
    have hq := HF.out ((W2.setCell ⟨M, 2, none⟩ (.float .f64 xz)).setCell ⟨M, 3, none⟩ (.float .f64 xm)) (Rw.kp (Rw.kp HZ.out.2.1 (Below.heap_setCell _ _ _ _ (by show N + 1 ≠ M; omega))) (Below.heap_setCell _ _ _ _ (by show N + 1 ≠ M; omega))) (Below.setCell (Below.setCell HZ.out.2.2.2.1 (p := ⟨M, 2, none⟩) (by show N ≤ M; have := HZ.out.2.2.2.2.2; omega) _) (p := ⟨M, 3, none⟩) (by show N ≤ M; have := HZ.out.2.2.2.2.2; omega) _) (.float .f64 x0) (.float .f64 x1) (.float .f64 xz) (.float .f64 xm) (.int .u8 ((3 : Nat) : Int))
    exact bodyPost_ret_by (results_cell_row rfl _ _ (N + 1) 178 _ (0, 0) _ rfl hq.1 Tryz.underlying178 rfl (by kernel_rfl)) rfl ⟨rfl, by rw [HBN.out]; exact hq.2⟩
end Go.Proofs.YtblpcpkkjbkakaaGreatDoor
/- The reference's numbers of places. -/
namespace Go.Proofs.YtblpcpkkjbkakaaGreatDoor
open Go Go.RowKit
set_option linter.unusedVariables false
set_option linter.unusedSimpArgs false

theorem take1 (xs : List Nat) (n : Nat) (h : n < xs.length) : xs.take (n + 1) = xs.take n ++ [xs.getD n 0] := by
  rw [List.take_succ_eq_append_getElem h, List.getD_eq_getElem?_getD, List.getElem?_eq_getElem h]; rfl
def zp (d : Nat) (xs : List Nat) (I : Nat) : List Nat := if d % 2 = 1 then [xs.getD (I + 2) 0] else []
def mp (d : Nat) (xs : List Nat) (I : Nat) : List Nat := if d / 2 = 1 then [xs.getD (I + wid d - 1) 0] else []
theorem take_quad (d : Nat) (hd : d < 4) (xs : List Nat) (I : Nat) (h : I + wid d ≤ xs.length) : xs.take (I + wid d) = xs.take I ++ [xs.getD I 0, xs.getD (I + 1) 0] ++ zp d xs I ++ mp d xs I := by
  obtain rfl | rfl | rfl | rfl : d = 0 ∨ d = 1 ∨ d = 2 ∨ d = 3 := by omega
  · have h' : I + 2 ≤ xs.length := h
    show xs.take (I + 1 + 1) = _
    rw [take1 _ _ (by omega), take1 _ _ (by omega)]
    simp [zp, mp]
  · have h' : I + 3 ≤ xs.length := h
    show xs.take (I + 1 + 1 + 1) = _
    rw [take1 _ _ (by omega), take1 _ _ (by omega), take1 _ _ (by omega)]
    simp [zp, mp]
  · have h' : I + 3 ≤ xs.length := h
    show xs.take (I + 1 + 1 + 1) = _
    rw [take1 _ _ (by omega), take1 _ _ (by omega), take1 _ _ (by omega)]
    simp [zp, mp, wid]
  · have h' : I + 4 ≤ xs.length := h
    show xs.take (I + 1 + 1 + 1 + 1) = _
    rw [take1 _ _ (by omega), take1 _ _ (by omega), take1 _ _ (by omega), take1 _ _ (by omega)]
    simp [zp, mp, wid]
theorem pcells_length (d : Nat) (xs : List Nat) (p : Nat) : (pcells d xs p).length = p * 4 := by
  induction p with
  | zero => rfl
  | succ p ih => rw [pcells_succ, List.length_append, ih]; simp [fcells, quad]; omega
theorem pcells_get (d : Nat) (xs : List Nat) (p j i : Nat) (hj : j < p) (hi : i < 4) : (pcells d xs p)[j * 4 + i]? = (fcells (quad d xs j))[i]? := by
  induction p with
  | zero => omega
  | succ p ih =>
    rw [pcells_succ]
    by_cases h : j < p
    · rw [List.getElem?_append_left (by rw [pcells_length]; omega)]
      exact ih h
    · obtain rfl : j = p := by omega
      rw [List.getElem?_append_right (by rw [pcells_length]; omega), pcells_length]
      congr 1; omega
/-- The numbers of a place, in order. -/
theorem cells_lit2' (w : World) (x y : Value) (t : TypeId) (N : Nat) (hN : w.heap.size = N) : ∀ j u, [x, y][j]? = some u → (w.alloc (.cells #[x, y] t)).cell? ((⟨N, 0, none⟩ : Addr).add j) = some u := by
  subst hN; exact cells_lit2 w x y t
theorem row_slice {base e sz n : Nat} {w : World} {v : Value} {xs : List Value} (h : w.ownsRow base e sz v n xs) :
    ∃ a c, v = .slice a n c ∧ (0 < n → ∃ g, a = some ⟨g, 0, none⟩ ∧ g < w.heap.size ∧ v.ownBlock = some g ∧ ∀ i, i < xs.length → w.cell? ⟨g, i, none⟩ = xs[i]?) := by
  rcases h.2 with ⟨rfl, h0⟩ | ⟨g, cap, cur, rfl, hb, hg, h5⟩
  · exact ⟨none, 0, by rw [h0], fun h => by omega⟩
  · exact ⟨_, cap, rfl, fun _ => ⟨g, rfl, (h.lt g rfl).2, rfl, fun i hi => h.cellAt i (by have := h.1; omega)⟩⟩
theorem fcells_app (xs ys : List Nat) : fcells (xs ++ ys) = fcells xs ++ fcells ys := by unfold fcells; rw [List.map_append]
/-- A row of numbers that grows, above b; a place's cells in block N. -/
def NmS (b N : Nat) (cs : Array Value) (n : Nat) (zs : List Nat) (v : Value) (w wx : World) : Prop := zs.length = n ∧ wx.ownsRow b 25 1 v n (fcells zs) ∧ Below b w wx ∧ (∀ k, v.ownBlock = some k → k ≠ N) ∧ Rw N cs 171 wx ∧ b ≤ N
theorem NmS.app {b N n m g3 cap : Nat} {cs : Array Value} {zs ys : List Nat} {v : Value} {w wx w5 : World} {o : Obj} (h : NmS b N cs n zs v w wx) (hy : ys.length = m) (hown : w5.ownsRow b 25 1 (.slice (some ⟨g3, 0, none⟩) (n + m) cap) (n + m) (fcells zs ++ fcells ys)) (hg : (wx.alloc o).grownBy w5 v.ownBlock) (hat : v.ownBlock = some g3 ∨ g3 = wx.heap.size + 1) : NmS b N cs (n + m) (zs ++ ys) (.slice (some ⟨g3, 0, none⟩) (n + m) cap) w w5 := by
  obtain ⟨h0, h1, h2, h3, h4, h5⟩ := h
  have hlt := h4.lt
  refine ⟨by rw [List.length_append, h0, hy], by rw [fcells_app]; exact hown, ?_, fun k hk => ?_, h4.kp ((hg.block N (by simp; omega) (fun e => h3 N e.symm rfl)).trans (Below.heap_alloc _ _ _ hlt)), h5⟩
  · have hb : b ≤ wx.heap.size := by omega
    exact (h2.alloc hb o).grown hg (by simp; omega) (fun k hk => (h1.lt k hk).1)
  · have hk' : g3 = k := by simpa [Value.ownBlock] using hk
    subst hk'
    rcases hat with h | h
    · exact h3 _ h
    · omega
set_option maxRecDepth 100000 in
set_option maxHeartbeats 4000000 in
theorem nums_any (d p : Nat) (xs : List Nat) (v : Value) (w : World) (hd : d < 4) (hp2 : p ≤ 100000) (h : w.ownsRow 0 171 4 v p (pcells d xs p)) (hx : xs.length = p * wid d) :
    Calls Tryz.prog 75 #[v, .int .i64 d] w fun e w' => ∃ v', e = .returned v' ∧ w'.ownsRow w.heap.size 25 1 v' (p * wid d) (fcells xs) ∧ Below w.heap.size w w' := by
  obtain ⟨i0, hi, hz0, hz1, hz2⟩ := info_parts info25
  obtain ⟨a, c, rfl, hrow⟩ := row_slice h
  have hq : 0 < p → ∃ g, a = some ⟨g, 0, none⟩ ∧ g < w.heap.size ∧ ∀ j i, j < p → i < 4 → w.cell? ⟨g, j * 4 + i, none⟩ = (fcells (quad d xs j))[i]? := fun h0 => by
    obtain ⟨g, h1, h2, -, h3⟩ := hrow h0
    exact ⟨g, h1, h2, fun j i hj hi => (h3 _ (by rw [pcells_length]; omega)).trans (pcells_get d xs p j i hj hi)⟩
  have HQ := Lib.hid hq
  clear h hrow hq
  have b1 := band1 d hd
  have b2 := band2 d hd
  have hw2 : 2 ≤ wid d ∧ wid d ≤ 4 := by unfold wid; omega
  have hmz : d % 2 = 0 ∨ d % 2 = 1 := by omega
  have hmm : d / 2 = 0 ∨ d / 2 = 1 := by omega
  have HM := Lib.hid (And.intro hx (And.intro hw2 (And.intro hmz (And.intro hmm hd))))
  clear hx hw2 hmz hmm
  obtain ⟨dz, hdz⟩ : ∃ dz, dz = d % 2 := ⟨_, rfl⟩
  obtain ⟨dm, hdm⟩ : ∃ dm, dm = d / 2 * 2 := ⟨_, rfl⟩
  rw [← hdz] at b1
  rw [← hdm] at b2
  have HD := Lib.hid (And.intro hdz hdm); clear hdz hdm
  obtain ⟨B, hB⟩ : ∃ B, B = w.heap.size := ⟨_, rfl⟩
  rw [← hB]
  have HB := Lib.hid hB; clear hB
  go_enter Tryz.func75, Tryz.ntmps75
  go_wp2_with fail
  go_loopw [5, 10] (fun v i wr => ∃ j : Nat, j ≤ p ∧ i = .int .i64 j ∧ RowKit.Hid (wr.ownsRow B 25 1 v (j * wid d) (fcells (xs.take (j * wid d))) ∧ Below B w wr)) (fun _ i _ => p - (intOf i).toNat)
  case atStart => exact ⟨0, Nat.zero_le _, rfl, Lib.hid ⟨by simp [fcells]; exact World.ownsRow_nil _ _ _ _, Below.refl _ _⟩⟩
  case round =>
    obtain ⟨j, hj, rfl, hS⟩ := hrel
    by_cases hlt : j < p
    · obtain ⟨g, rfl, hg, hc⟩ := HQ.out (by omega)
      obtain ⟨x0, hx0⟩ : ∃ x, x = xs.getD (j * wid d) 0 := ⟨_, rfl⟩
      obtain ⟨x1, hx1⟩ : ∃ x, x = xs.getD (j * wid d + 1) 0 := ⟨_, rfl⟩
      obtain ⟨x2, hx2⟩ : ∃ x, x = if d % 2 = 1 then xs.getD (j * wid d + 2) 0 else 0 := ⟨_, rfl⟩
      obtain ⟨x3, hx3⟩ : ∃ x, x = if d / 2 = 1 then xs.getD (j * wid d + wid d - 1) 0 else 0 := ⟨_, rfl⟩
      have hqd : fcells (quad d xs j) = [.float .f64 x0, .float .f64 x1, .float .f64 x2, .float .f64 x3] := by rw [hx0, hx1, hx2, hx3]; rfl
      have hgB : g < B := by rw [HB.out]; exact hg
      have hcc : ∀ i, i < 4 → wr.cell? ⟨g, j * 4 + i, none⟩ = [Value.float .f64 x0, .float .f64 x1, .float .f64 x2, .float .f64 x3][i]? := fun i h => by
        rw [hS.out.2.cell (p := ⟨g, j * 4 + i, none⟩) hgB, hc j i hlt h, hqd]
      have q0 : wr.cell? ⟨g, j * 4, none⟩ = some (.float .f64 x0) := hcc 0 (by decide)
      have q1 : wr.cell? ⟨g, j * 4 + 1, none⟩ = some (.float .f64 x1) := hcc 1 (by decide)
      have q2 : wr.cell? ⟨g, j * 4 + 2, none⟩ = some (.float .f64 x2) := hcc 2 (by decide)
      have q3 : wr.cell? ⟨g, j * 4 + 3, none⟩ = some (.float .f64 x3) := hcc 3 (by decide)
      have hI : j * wid d + wid d ≤ xs.length := by rw [HM.out.1, ← Nat.succ_mul]; exact Nat.mul_le_mul_right _ hlt
      have hIl : xs.length ≤ 400000 := by rw [HM.out.1]; exact Nat.le_trans (Nat.mul_le_mul hp2 HM.out.2.1.2) (by decide)
      have htl : (xs.take (j * wid d)).length = j * wid d := by rw [List.length_take]; omega
      have htq := take_quad d hd xs (j * wid d) hI
      have hsucc : (j + 1) * wid d = j * wid d + wid d := Nat.succ_mul _ _
      obtain ⟨I, hI'⟩ : ∃ I, I = j * wid d := ⟨_, rfl⟩
      have hIw : I + 4 ≤ 400004 := by omega
      rw [← hI'] at hS hx0 hx1 hx2 hx3 htl htq hsucc hI
      have HE := Lib.hid (And.intro htl (And.intro htq (And.intro hsucc (And.intro hx0 (And.intro hx1 (And.intro hx2 (And.intro hx3 hI)))))))
      clear hx0 hx1 hx2 hx3 hqd hcc htl htq hsucc hI' hI hIl hc
      have hsB : B ≤ wr.heap.size := by rw [HB.out]; exact hS.out.2.size
      have hown := hS.out.1
      have hlv : ∀ k, u5.ownBlock = some k → k < wr.heap.size := fun k hk => (hown.lt k hk).2
      have hn0 : NmS B wr.heap.size #[.float .f64 x0, .float .f64 x1, .float .f64 x2, .float .f64 x3] I (xs.take I) u5 w (wr.alloc (.cells #[.float .f64 x0, .float .f64 x1, .float .f64 x2, .float .f64 x3] 171)) :=
        ⟨HE.out.1, hown.alloc _, hS.out.2.alloc hsB _, fun k hk => by have := hlv k hk; omega, Rw.new _ _ _, hsB⟩
      have H0 := Lib.hid hn0; clear hn0 hown hlv
      have hfin : ∀ N n3 v wx, NmS B N #[.float .f64 x0, .float .f64 x1, .float .f64 x2, .float .f64 x3] n3 (xs.take I ++ [x0, x1] ++ zp d xs I ++ mp d xs I) v w wx → wx.ownsRow B 25 1 v (I + wid d) (fcells (xs.take (I + wid d))) ∧ Below B w wx := by
        intro N n3 v wx h
        have e : xs.take I ++ [x0, x1] ++ zp d xs I ++ mp d xs I = xs.take (I + wid d) := by rw [HE.out.2.1, HE.out.2.2.2.1, HE.out.2.2.2.2.1]
        rw [e] at h
        have hl : n3 = I + wid d := by rw [← h.1, List.length_take]; have := HE.out.2.2.2.2.2.2.2; omega
        subst hl
        exact ⟨h.2.1, h.2.2.1⟩
      go_upto_block 1 with fail
      go_cut [5] (fun v wx => RowKit.Hid (wx.ownsRow B 25 1 v (I + wid d) (fcells (xs.take (I + wid d))) ∧ Below B w wx))
      case first =>
        go_upto_if 23 with (at_builtin; refine wpList_append_lies _ rfl _ _ 42 rfl B 25 i0 (.float .f64 0) 1 8 Tryz.underlying42 hi hz0 hz1 hz2 rfl (by decide) u5 I (fcells (xs.take I)) rfl (H0.out.2.1.alloc _) ⟨wr.heap.size + 1, 0, none⟩ 2 2 [_, _] rfl rfl (cells_lit2' _ _ _ _ _ (by simp)) (by intro u hu; simp at hu; rcases hu with rfl | rfl <;> rfl) (by omega) (by unfold maxLen; omega) (by omega) (by simp; omega) _ rfl ?_; intro g3 cap w5 hown5 hg5 hat5 hlt5)
        have hn1 := H0.out.app (ys := [x0, x1]) rfl hown5 hg5 (by simpa using hat5)
        obtain ⟨N, hN⟩ : ∃ N, N = wr.heap.size := ⟨_, rfl⟩
        rw [← hN] at hn1 ⊢
        have H1 := Lib.hid hn1
        clear hn1 hown5 hg5 hat5 hlt5 H0 hN q0 q1 q2 q3 hS hsB
        go_cut [5] (fun v wx => ∃ n2, n2 ≤ I + 3 ∧ RowKit.Hid (NmS B N #[.float .f64 x0, .float .f64 x1, .float .f64 x2, .float .f64 x3] n2 (xs.take I ++ [x0, x1] ++ zp d xs I) v w wx))
        case first =>
          have hz := HM.out.2.2.1
          rw [← HD.out.1] at hz
          rcases hz with hz | hz
          · have hbz : ((dz : Int) == 1) = false := by rw [hz]; rfl
            have HZ := Lib.hid hz; clear hz
            go_wp2_with fail
            go_meet
            case rel => exact ⟨I + 2, by omega, Lib.hid (by have h := H1.out; have e : zp d xs I = [] := by { unfold zp; rw [if_neg (by have := HD.out.1; have := HZ.out; omega)] }; rw [e, List.append_nil]; exact h)⟩
          · have hbz : ((dz : Int) == 1) = true := by rw [hz]; rfl
            have HZ := Lib.hid hz; clear hz
            have r0 : w5.cell? ⟨N, 2, none⟩ = some (.float .f64 x2) := H1.out.2.2.2.2.1.cell 2 rfl
            go_wp2_with (at_builtin; refine wpList_append_lies _ rfl _ _ 42 rfl B 25 i0 (.float .f64 0) 1 8 Tryz.underlying42 hi hz0 hz1 hz2 rfl (by decide) (.slice (some ⟨g3, 0, none⟩) (I + 2) cap) (I + 2) (fcells (xs.take I ++ [x0, x1])) rfl (H1.out.2.1.alloc _) ⟨w5.heap.size, 0, none⟩ 1 1 [_] rfl rfl (cells_lit1 _ _ _ _ rfl) (by intro u hu; simp at hu; subst hu; rfl) (by omega) (by unfold maxLen; omega) (by omega) (by have := H1.out.2.2.2.2.1.lt; have := H1.out.2.2.2.2.2; simp; omega) _ rfl ?_; intro g4 cap4 w6 hown6 hg6 hat6 hlt6)
            go_meet
            case rel => exact ⟨I + 3, by omega, Lib.hid (by have h := H1.out.app (m := 1) (ys := [x2]) rfl hown6 hg6 (by simpa using hat6); have e : zp d xs I = [x2] := by { have := HD.out.1; have := HZ.out; unfold zp; rw [if_pos (by omega), HE.out.2.2.2.2.2.1, if_pos (by omega)] }; rw [e]; exact h)⟩
        case rest =>
          obtain ⟨n2, hn2, H2⟩ := hcut
          clear H1 b1
          go_upto_if 31 with fail
          have hz := HM.out.2.2.2.1
          have hz2 : dm = 0 ∨ dm = 2 := by have := HD.out.2; omega
          clear hz
          rcases hz2 with hz | hz
          · have hbz : ((dm : Int) == 2) = false := by rw [hz]; rfl
            have HZ := Lib.hid hz; clear hz
            go_wp2_with fail
            go_meet
            case rel => exact Lib.hid (hfin _ _ _ _ (by have h := H2.out; have e : mp d xs I = [] := by { unfold mp; rw [if_neg (by have := HD.out.2; have := HZ.out; omega)] }; rw [e, List.append_nil]; exact h))
          · have hbz : ((dm : Int) == 2) = true := by rw [hz]; rfl
            have HZ := Lib.hid hz; clear hz
            have r0 : wc.cell? ⟨N, 3, none⟩ = some (.float .f64 x3) := H2.out.2.2.2.2.1.cell 3 rfl
            go_wp2_with (at_builtin; refine wpList_append_lies _ rfl _ _ 42 rfl B 25 i0 (.float .f64 0) 1 8 Tryz.underlying42 hi hz0 hz1 hz2 rfl (by decide) u5 n2 (fcells (xs.take I ++ [x0, x1] ++ zp d xs I)) rfl (H2.out.2.1.alloc _) ⟨wc.heap.size, 0, none⟩ 1 1 [_] rfl rfl (cells_lit1 _ _ _ _ rfl) (by intro u hu; simp at hu; subst hu; rfl) (by omega) (by unfold maxLen; omega) (by omega) (by have := H2.out.2.2.2.2.1.lt; have := H2.out.2.2.2.2.2; simp; omega) _ rfl ?_; intro g4 cap4 w6 hown6 hg6 hat6 hlt6)
            go_meet
            case rel => exact Lib.hid (hfin _ _ _ _ (by have h := H2.out.app (m := 1) (ys := [x3]) rfl hown6 hg6 (by simpa using hat6); have e : mp d xs I = [x3] := by { have := HD.out.2; have := HZ.out; unfold mp; rw [if_pos (by omega), HE.out.2.2.2.2.2.2.1, if_pos (by omega)] }; rw [e]; exact h))
      case rest =>
        go_wp2_with fail
        go_roundw
        case rel => exact ⟨j + 1, by omega, by go_num, Lib.hid (by rw [HE.out.2.2.1]; exact hcut.out)⟩
        case measure => simp [intOf]; omega
    · have hjp : j = p := by omega
      subst hjp
      go_wp2_with fail
      go_ret
      have h := hS.out
      rw [← HM.out.1, List.take_length, HM.out.1] at h
      exact ⟨_, rfl, h⟩
end Go.Proofs.YtblpcpkkjbkakaaGreatDoor
/- The reference's forcing of a type of coordinates, where it is the same. -/
namespace Go.Proofs.YtblpcpkkjbkakaaGreatDoor
open Go Go.RowKit
set_option linter.unusedVariables false
set_option linter.unusedSimpArgs false

theorem ownsRow_zero {b e sz n : Nat} {w : World} {v : Value} {xs : List Value} (h : w.ownsRow b e sz v n xs) : w.ownsRow 0 e sz v n xs :=
  ⟨h.1, h.2.imp id fun ⟨g, cap, cur, hv, hb, r⟩ => ⟨g, cap, cur, hv, Nat.zero_le _, r⟩⟩
/-- Places of no numbers. -/
theorem places_none (d c : Nat) (a : Option Addr) (w : World) (hd : d < 4) : Calls Tryz.prog 76 #[.slice a 0 c, .int .i64 d] w fun e w' => e = .returned (.slice none 0 0) ∧ w = w' := by
  have HWD := Lib.hid (fun W => width_any d W hd)
  have hwd2 : 2 ≤ wid d ∧ wid d ≤ 4 := by unfold wid; omega
  generalize wid d = wd at HWD hwd2
  go_enter Tryz.func76, Tryz.ntmps76
  go_wp2_with (go_at_call 48; refine (HWD.out _).mono ?_; rintro e w' ⟨rfl, rfl⟩)
  go_loopw [5, 7] (fun v i wr => v = .slice none 0 0 ∧ i = .int .i64 0 ∧ wr = w) (fun _ i _ => 0)
  case atStart => exact ⟨rfl, rfl, rfl⟩
  case round =>
    obtain ⟨rfl, rfl, rfl⟩ := hrel
    have h1 : ¬ (wd : Int) ≤ 0 := by omega
    go_wp2_with fail
    go_ret
    exact ⟨rfl, rfl⟩
/-- Places of any whole places' numbers. -/
theorem places_any (d p : Nat) (xs : List Nat) (v : Value) (w : World) (hd : d < 4) (hp2 : p ≤ 100000) (h : w.ownsRow 0 25 1 v (p * wid d) (fcells xs)) (hx : xs.length = p * wid d) :
    Calls Tryz.prog 76 #[v, .int .i64 d] w fun e w' => ∃ v', e = .returned v' ∧ w'.ownsRow 0 171 4 v' p (pcells d xs p) ∧ Below w.heap.size w w' := by
  obtain ⟨a, c, rfl, hrow⟩ := row_slice h
  by_cases hp : 0 < p
  · obtain ⟨n, hn⟩ := wid_pos d
    obtain ⟨g, rfl, -⟩ := hrow (by rw [hn]; exact Nat.mul_pos hp (Nat.succ_pos _))
    refine (places_some d g c p xs w hd hp hp2 h hx).mono ?_
    rintro e w' ⟨v, rfl, ho, -, hb⟩
    exact ⟨v, rfl, ownsRow_zero ho, hb⟩
  · obtain rfl : p = 0 := by omega
    rw [Nat.zero_mul]
    refine (places_none d c a w hd).mono ?_
    rintro e w' ⟨rfl, rfl⟩
    exact ⟨_, rfl, World.ownsRow_nil _ _ _ _, Below.refl _ _⟩
/-- A parameter's box in block N, the result's cells behind it, the geometry that is made behind that. -/
structure F3 (N : Nat) (t : TypeId) (cs : Array Value) (kk d : Nat) (vN vK : Value) (w wr : World) : Prop where
  rb : Rw N cs t wr
  bx : GBox kk d (N + 1) vN vK wr
  bl : Below N w wr
theorem F3.old {N : Nat} {t : TypeId} {cs : Array Value} {kk d : Nat} {vN vK : Value} {w wr w' : World} (h : F3 N t cs kk d vN vK w wr) (hb : Below wr.heap.size wr w') : F3 N t cs kk d vN vK w w' :=
  ⟨h.rb.old hb h.rb.lt, h.bx.keep (hb.block _ (by have := h.bx.lt; omega)) (hb.block _ h.bx.lt), h.bl.trans (hb.mono (Nat.le_of_lt h.rb.lt))⟩
theorem F3.new (w : World) (t : TypeId) (cs : Array Value) (kk d : Nat) : F3 w.heap.size t cs kk d (.slice none 0 0) (.slice none 0 0) w (((w.alloc (.cells cs t)).alloc (.cells #[.int .i64 0, .int .i64 0, .slice none 0 0, .slice none 0 0] 45)).alloc (.cells #[.int .i64 kk, .int .i64 d, .slice none 0 0, .slice none 0 0] 45)) := by
  have hg := gbox_new kk d (w.alloc (.cells cs t))
  have hs : (w.alloc (.cells cs t)).heap.size = w.heap.size + 1 := by simp
  rw [hs] at hg
  exact ⟨((Rw.new _ _ _).alloc _).alloc _, hg, (below2 w _ _).alloc (by simp; omega) _⟩
theorem F3.set2 {N : Nat} {t : TypeId} {cs : Array Value} {kk d : Nat} {vN vK : Value} {w wr : World} (h : F3 N t cs kk d vN vK w wr) (v : Value) : F3 N t cs kk d v vK w (wr.setCell ⟨N + 2, 2, none⟩ v) :=
  ⟨h.rb.kp (Below.heap_setCell _ _ _ _ (by show N ≠ N + 2; omega)), h.bx.set2 v, h.bl.setCell (p := ⟨N + 2, 2, none⟩) (by show N ≤ N + 2; omega) v⟩
theorem F3.set3 {N : Nat} {t : TypeId} {cs : Array Value} {kk d : Nat} {vN vK : Value} {w wr : World} (h : F3 N t cs kk d vN vK w wr) (v : Value) : F3 N t cs kk d vN v w (wr.setCell ⟨N + 2, 3, none⟩ v) :=
  ⟨h.rb.kp (Below.heap_setCell _ _ _ _ (by show N ≠ N + 2; omega)), h.bx.set3 v, h.bl.setCell (p := ⟨N + 2, 3, none⟩) (by show N ≤ N + 2; omega) v⟩
theorem F3.fin {N : Nat} {t : TypeId} {cs : Array Value} {kk d : Nat} {vN vK : Value} {w wr : World} (h : F3 N t cs kk d vN vK w wr) (a b c e : Value) :
    Rw (N + 1) #[a, b, c, e] 45 ((((wr.setCell ⟨N + 1, 0, none⟩ a).setCell ⟨N + 1, 1, none⟩ b).setCell ⟨N + 1, 2, none⟩ c).setCell ⟨N + 1, 3, none⟩ e) ∧ Below N w ((((wr.setCell ⟨N + 1, 0, none⟩ a).setCell ⟨N + 1, 1, none⟩ b).setCell ⟨N + 1, 2, none⟩ c).setCell ⟨N + 1, 3, none⟩ e) :=
  ⟨h.bx.fin a b c e, (((h.bl.setCell (p := ⟨N + 1, 0, none⟩) (by simp) _).setCell (p := ⟨N + 1, 1, none⟩) (by simp) _).setCell (p := ⟨N + 1, 2, none⟩) (by simp) _).setCell (p := ⟨N + 1, 3, none⟩) (by simp) _⟩
/-- No numbers of no places. -/
theorem nums_none (d c : Nat) (a : Option Addr) (w : World) : Calls Tryz.prog 75 #[.slice a 0 c, .int .i64 d] w fun e w' => e = .returned (.slice none 0 0) ∧ w = w' := by
  go_enter Tryz.func75, Tryz.ntmps75
  go_wp2_with fail
  go_loopw [5, 10] (fun v i wr => v = .slice none 0 0 ∧ i = .int .i64 0 ∧ wr = w) (fun _ i _ => 0)
  case atStart => exact ⟨rfl, rfl, rfl⟩
  case round =>
    obtain ⟨rfl, rfl, rfl⟩ := hrel
    go_wp2_with fail
    go_ret
    exact ⟨rfl, rfl⟩
theorem All2.left {α β : Type} {R : α → β → Prop} {P : α → Prop} (h : ∀ a b, R a b → P a) : ∀ {l : List α} {m : List β}, All2 R l m → ∀ a ∈ l, P a
  | [], [], _ => fun a ha => absurd ha (List.not_mem_nil)
  | a :: l, b :: m, ⟨x, y⟩ => fun c hc => by
    rcases List.mem_cons.1 hc with rfl | hc
    · exact h _ _ x
    · exact All2.left h y c hc
  | [], _ :: _, h => h.elim
  | _ :: _, [], h => h.elim
theorem flat_get {n : Nat} : ∀ (ccs : List (List Value)), (∀ c ∈ ccs, c.length = n) → ∀ (j i : Nat) (c : List Value), i < n → ccs[j]? = some c → ccs.flatten[j * n + i]? = c[i]?
  | [], _, j, i, c, _, h => by simp at h
  | b :: ccs, hl, 0, i, c, hi, h => by
    simp only [List.getElem?_cons_zero, Option.some.injEq] at h
    subst h
    have hb := hl b (List.mem_cons_self ..)
    rw [List.flatten_cons, List.getElem?_append_left (by omega), Nat.zero_mul, Nat.zero_add]
  | b :: ccs, hl, j + 1, i, c, hi, h => by
    have hb := hl b (List.mem_cons_self ..)
    have he : (j + 1) * n + i = b.length + (j * n + i) := by rw [hb, Nat.succ_mul]; omega
    rw [List.flatten_cons, he, List.getElem?_append_right (by omega), Nat.add_sub_cancel_left]
    exact flat_get ccs (fun c hc => hl c (List.mem_cons_of_mem _ hc)) j i c hi (by simpa using h)
section
variable {α : Type} (R : (Nat → Prop) → World → List Value → α → Prop)
/-- A geometry whose parts are added one by one. -/
def LpG (N : Nat) (t : TypeId) (cs : Array Value) (kk d : Nat) (l : List α) (vK : Value) (w wr : World) : Prop :=
  ∃ ccs, F3 N t cs kk d (.slice none 0 0) vK w wr ∧ wr.ownsRow 0 45 4 vK l.length ccs.flatten ∧ (∀ g, vK.ownBlock = some g → N + 3 ≤ g) ∧ All2 (R (Ft (N + 1) wr.heap.size vK) wr) ccs l
end
theorem LpG.old {α : Type} {R : (Nat → Prop) → World → List Value → α → Prop} (hRep : Rep R) {N : Nat} {t : TypeId} {cs : Array Value} {kk d : Nat} {l : List α} {vK : Value} {w wr w' : World} (h : LpG R N t cs kk d l vK w wr) (hb : Below wr.heap.size wr w') : LpG R N t cs kk d l vK w w' := by
  obtain ⟨ccs, h1, h2, h3, h4⟩ := h
  refine ⟨ccs, h1.old hb, ownsRow_keep h2 fun k _ hl => hb.block k hl, h3, All2.imp (fun c y hcy => ?_) h4⟩
  have hs := hb.size
  exact hRep.mono _ _ _ _ _ (hRep.keep _ wr w' _ _ hcy fun k _ hl => hb.block k hl) fun k hk => ⟨hk.1, by have := hk.2.1; omega, hk.2.2⟩
theorem LpG.mk {α : Type} {R : (Nat → Prop) → World → List Value → α → Prop} (hRep : Rep R) {N : Nat} {t : TypeId} {bs : Array Value} {kk d : Nat} {l : List α} {vK : Value} {w wr w3 w4 : World} {x : α} {cs : List Value} {g3 cap : Nat} {ccs : List (List Value)}
    (hF : F3 N t bs kk d (.slice none 0 0) vK w wr) (hownK : wr.ownsRow 0 45 4 vK l.length ccs.flatten) (hvb : ∀ g, vK.ownBlock = some g → N + 3 ≤ g) (hA : All2 (R (Ft (N + 1) wr.heap.size vK) wr) ccs l)
    (hb3 : Below wr.heap.size wr w3) (hx : R (fun k => wr.heap.size ≤ k) w3 cs x)
    (hown : w4.ownsRow 0 45 4 (.slice (some ⟨g3, 0, none⟩) (l.length + 1) cap) (l.length + 1) (ccs.flatten ++ cs)) (hg4 : (w3.alloc (.cells ⟨cs⟩ 45)).grownBy w4 vK.ownBlock) (hat : vK.ownBlock = some g3 ∨ g3 = w3.heap.size + 1) :
    LpG R N t bs kk d (l ++ [x]) (.slice (some ⟨g3, 0, none⟩) (l.length + 1) cap) w (w4.setCell ⟨N + 2, 3, none⟩ (.slice (some ⟨g3, 0, none⟩) (l.length + 1) cap)) := by
  have hd : DFr (N + 2) w4 (w4.setCell ⟨N + 2, 3, none⟩ (.slice (some ⟨g3, 0, none⟩) (l.length + 1) cap)) := (DFr.refl _ _).set _ _
  have hms := hF.bx.lt
  have hsz3 := hb3.size
  have hal : (w3.alloc (.cells ⟨cs⟩ 45)).heap.size = w3.heap.size + 1 := by simp
  have hsz4 := hg4.size
  rw [hal] at hsz4
  have hk3 : ∀ k, k < w3.heap.size → vK.ownBlock ≠ some k → w4.heap[k]? = w3.heap[k]? := fun k hk hne => (hg4.block k (by omega) (fun e => hne e.symm)).trans (Below.heap_alloc _ _ _ hk)
  have hvlt : ∀ g, vK.ownBlock = some g → g < wr.heap.size := fun g hg => (hownK.lt g hg).2
  have hg3 : N + 3 ≤ g3 := by
    rcases hat with h | h
    · exact hvb _ h
    · omega
  have hgg : ∀ k, vK.ownBlock ≠ some k → k < w3.heap.size → k ≠ g3 := by
    intro k h1 h2
    rcases hat with h | h
    · intro e; rw [e] at h1; exact h1 h
    · omega
  have hs5 : (w4.setCell ⟨N + 2, 3, none⟩ (.slice (some ⟨g3, 0, none⟩) (l.length + 1) cap)).heap.size = w4.heap.size := hd.2.2
  have hob : (Value.slice (some ⟨g3, 0, none⟩) (l.length + 1) cap).ownBlock = some g3 := rfl
  have hF3 := hF.old hb3
  have hF4 : F3 N t bs kk d (.slice none 0 0) vK w w4 := by
    refine ⟨hF3.rb.kp (hk3 _ hF3.rb.lt fun e => ?_), hF3.bx.keep (hk3 _ (by have := hF3.bx.lt; omega) fun e => ?_) (hk3 _ hF3.bx.lt fun e => ?_), ?_⟩
    · have := hvb _ e; omega
    · have := hvb _ e; omega
    · have := hvb _ e; omega
    · exact (hF3.bl.alloc (Nat.le_of_lt hF3.rb.lt) _).grown hg4 (by rw [hal]; have := hF3.rb.lt; omega) (fun k hk => by have := hvb _ hk; omega)
  refine ⟨ccs ++ [cs], hF4.set3 _, ?_, fun g hg => ?_, All2.snoc ?_ (All2.imp (fun c y hcy => ?_) hA)⟩
  · rw [List.length_append, List.length_singleton]
    refine ownsRow_keep ?_ fun k hk _ => hd.1 k ?_
    · simpa using hown
    · have : g3 = k := by simpa [Value.ownBlock] using hk
      omega
  · have : g3 = g := by simpa [Value.ownBlock] using hg
    omega
  · refine hRep.mono _ _ _ _ _ (hRep.keep _ w3 _ _ _ (hRep.nar _ _ _ _ hx) fun k hk _ => (hd.1 k (by omega)).trans (hk3 k hk.2 (fun e => by have := hvlt _ e; omega))) fun k hk => ?_
    refine ⟨by omega, by rw [hs5]; omega, ?_⟩
    rw [hob]
    intro e
    exact hgg k (fun e => by have := hvlt _ e; omega) hk.2 (Option.some.inj e).symm
  · refine hRep.mono _ _ _ _ _ (hRep.keep _ wr _ _ _ hcy fun k hk _ => (hd.1 k (by have := hk.1; omega)).trans ((hk3 k (by have := hk.2.1; omega) hk.2.2).trans (hb3.block k hk.2.1))) fun k hk => ?_
    refine ⟨hk.1, by rw [hs5]; have := hk.2.1; omega, ?_⟩
    rw [hob]
    intro e
    exact hgg k hk.2.2 (by have := hk.2.1; omega) (Option.some.inj e).symm
theorem set4_keep (w : World) (m k : Nat) (a b c e : Value) (hk : k ≠ m) : ((((w.setCell ⟨m, 0, none⟩ a).setCell ⟨m, 1, none⟩ b).setCell ⟨m, 2, none⟩ c).setCell ⟨m, 3, none⟩ e).heap[k]? = w.heap[k]? := by
  rw [Below.heap_setCell _ _ _ _ hk, Below.heap_setCell _ _ _ _ hk, Below.heap_setCell _ _ _ _ hk, Below.heap_setCell _ _ _ _ hk]
/-- A geometry that is made anew, as another was. -/
def FrPost {α : Type} (R : (Nat → Prop) → World → List Value → α → Prop) (x : α) (w : World) (e : Ending) (w' : World) : Prop :=
  ∃ cs, e = .returned (.agg ⟨cs⟩) ∧ R (fun k => w.heap.size ≤ k) w' cs x ∧ Below w.heap.size w w'
set_option maxRecDepth 100000 in
set_option maxHeartbeats 4000000 in
theorem frcL (d : Nat) (F : Nat → Prop) (cs : List Value) (xs : List Nat) (w : World) (hd : d < 4) (h : GLc d F w cs xs) :
    Calls Tryz.prog 50 #[.agg ⟨cs⟩, .int .i64 d] w (FrPost (GLc d) xs w) := by
  obtain ⟨vN, rfl, hown, -, hok⟩ := h
  have HOK := Lib.hid hok
  obtain ⟨p, hp2, hx⟩ := hok
  rw [hx] at hown
  obtain ⟨a, c, rfl, -⟩ := row_slice hown
  have hpl := fun W (hb : Below w.heap.size w W) => places_any d p xs (.slice a (p * wid d) c) W hd hp2 (ownsRow_keep hown fun k hk hl => hb.block k hl) hx
  have hnm := fun v W ho => nums_any d p xs v W hd hp2 ho hx
  have hf := F3.new w 45 #[.int .i64 ((2 : Nat) : Int), .int .i64 d, .slice a (p * wid d) c, .slice none 0 0] 2 d
  have HP := Lib.hid (And.intro hpl (And.intro hnm hf))
  have HX := Lib.hid hx
  clear hpl hnm hf hown hx
  generalize hn : p * wid d = n at *
  have HN := Lib.hid hn; clear hn
  go_enter Tryz.func50, Tryz.ntmps50
  go_upto_region 3 with (first | (go_at_call 76; refine (HP.out.1 _ HP.out.2.2.bl).mono ?_; rintro e w1 ⟨v1, rfl, ho1, hb1⟩; have HP1 := Lib.hid (And.intro ho1 (HP.out.2.2.old hb1)); clear ho1 hb1) | (go_at_call 75; refine (HP.out.2.1 _ _ HP1.out.1).mono ?_; rintro e w2 ⟨v2, rfl, ho2, hb2⟩; obtain ⟨a2, e2, rfl, -⟩ := row_slice ho2; obtain ⟨c0, c1, c2, c3⟩ := (HP1.out.2.old hb2).bx.cells; obtain ⟨o0, o1, o2, o3⟩ := (HP1.out.2.old hb2).bx.out; have r0 : w2.cell? ⟨w.heap.size, 3, none⟩ = some (.slice none 0 0) := (HP1.out.2.old hb2).rb.cell 3 rfl; obtain ⟨z2, z2'⟩ := (HP1.out.2.old hb2).bx.froz 2; obtain ⟨z0, z0'⟩ := (HP1.out.2.old hb2).bx.froz 0; obtain ⟨z1, z1'⟩ := (HP1.out.2.old hb2).bx.froz 1; obtain ⟨z3, z3'⟩ := (HP1.out.2.old hb2).bx.froz 3; have HP2 := Lib.hid (And.intro ho2 (And.intro (HP1.out.2.old hb2) HP1.out.2)); clear ho2 hb2))
  go_wp2_with fail
  go_loopw [23] (fun i wr => i = .int .i64 0 ∧ wr = w2.setCell ⟨w.heap.size + 1 + 1, 2, none⟩ (.slice a2 n e2)) (fun _ _ => 0)
  case atStart => exact ⟨rfl, rfl⟩
  case round =>
    obtain ⟨rfl, rfl⟩ := hrel
    go_wp2_with fail
    obtain ⟨ho, hF, hF1⟩ := HP2.out
    have hfin := (hF.set2 (.slice a2 n e2)).fin (.int .i64 2) (.int .i64 d) (.slice a2 n e2) (.slice none 0 0)
    refine bodyPost_ret_by (results_cell_row rfl _ _ (w.heap.size + 1) 45 _ (0, 0) _ rfl hfin.1 Tryz.underlying45 rfl (by kernel_rfl)) rfl ⟨_, rfl, ⟨_, rfl, ?_, fun k hk => ?_, HOK.out⟩, hfin.2⟩
    · rw [HX.out]
      refine ownsRow_keep (ownsRow_zero ho) fun k hk hl => ?_
      have hk1 := (ho.lt k hk).1
      have hk2 := hF1.bx.lt
      rw [set4_keep _ _ _ _ _ _ _ (by omega), Below.heap_setCell _ _ _ _ (by show k ≠ w.heap.size + 1 + 1; omega)]
    · have hk1 := (ho.lt k hk).1
      have hk2 := hF1.bx.lt
      omega
/-- The parts are all there: the geometry goes into its result. -/
theorem LpG.done {α : Type} {R : (Nat → Prop) → World → List Value → α → Prop} (hRep : Rep R) {t : TypeId} {cs : Array Value} {kk d : Nat} {l : List α} {vK : Value} {w wr : World} (hll : l.length ≤ 100000) (h : LpG R w.heap.size t cs kk d l vK w wr) :
    Rw (w.heap.size + 1) #[.int .i64 kk, .int .i64 d, .slice none 0 0, vK] 45 ((((wr.setCell ⟨w.heap.size + 1, 0, none⟩ (.int .i64 kk)).setCell ⟨w.heap.size + 1, 1, none⟩ (.int .i64 d)).setCell ⟨w.heap.size + 1, 2, none⟩ (.slice none 0 0)).setCell ⟨w.heap.size + 1, 3, none⟩ vK) ∧
    FrPost (GKc R kk d) l w (.returned (.agg #[.int .i64 kk, .int .i64 d, .slice none 0 0, vK])) ((((wr.setCell ⟨w.heap.size + 1, 0, none⟩ (.int .i64 kk)).setCell ⟨w.heap.size + 1, 1, none⟩ (.int .i64 d)).setCell ⟨w.heap.size + 1, 2, none⟩ (.slice none 0 0)).setCell ⟨w.heap.size + 1, 3, none⟩ vK) := by
  obtain ⟨ccs, h1, h2, h3, h4⟩ := h
  have hfin := h1.fin (.int .i64 kk) (.int .i64 d) (.slice none 0 0) vK
  refine ⟨hfin.1, _, rfl, ⟨_, ccs, rfl, ownsRow_keep h2 fun k hk _ => set4_keep _ _ _ _ _ _ _ (by have := h3 k hk; omega), (fun k hk => by have := h3 k hk; omega), All2.imp (fun c y hcy => ?_) h4, hll⟩, hfin.2⟩
  exact hRep.mono _ _ _ _ _ (hRep.keep _ wr _ _ _ hcy fun k hk _ => set4_keep _ _ _ _ _ _ _ (by have := hk.1; omega)) fun k hk => by have := hk.1; omega
theorem fine50 : (Tryz.f50.name == "runtime.NumGoroutine" || Tryz.f50.body.isNone) = false := by kernel_rfl
set_option maxRecDepth 100000 in
set_option maxHeartbeats 4000000 in
theorem frcK {α : Type} {R : (Nat → Prop) → World → List Value → α → Prop} (hRep : Rep R) (Pr : α → Prop) (kk d : Nat) (F : Nat → Prop) (cs : List Value) (l : List α) (w : World) (hd : d < 4) (hPr : ∀ x ∈ l, Pr x) (h : GKc R kk d F w cs l)
    (hel : ∀ F cs x W, Pr x → R F W cs x → Calls Tryz.prog 50 #[.agg ⟨cs⟩, .int .i64 d] W (FrPost R x W)) :
    Calls Tryz.prog 50 #[.agg ⟨cs⟩, .int .i64 d] w (FrPost (GKc R kk d) l w) := by
  obtain ⟨i0, hi, hz0, hz1, hz2⟩ := info_parts info45
  obtain ⟨vK, ccs, rfl, hown, -, hA, hll⟩ := h
  obtain ⟨a, c, rfl, hrow⟩ := row_slice hown
  have hcl : ∀ c ∈ ccs, c.length = 4 := All2.left (fun a b h => hRep.len F w a b h) hA
  have hf := F3.new w 45 #[.int .i64 kk, .int .i64 d, .slice none 0 0, .slice a l.length c] kk d
  have HP := Lib.hid (And.intro hf (And.intro hel (And.intro hPr (And.intro hown (And.intro hA (And.intro hrow hcl))))))
  clear hf hel hPr hown hA hrow hcl
  obtain ⟨n, hn⟩ : ∃ n, n = l.length := ⟨_, rfl⟩
  rw [← hn] at hll HP ⊢
  have HN := Lib.hid hn; clear hn
  go_enter Tryz.func50, Tryz.ntmps50
  go_upto_region 3 with (first | (go_at_call 76; refine (places_none d 0 none _ hd).mono ?_; rintro e w' ⟨rfl, rfl⟩) | (go_at_call 75; refine (nums_none d 0 none _).mono ?_; rintro e w' ⟨rfl, rfl⟩))
  go_wp2_with fail
  go_loopw [23] (fun i wr => ∃ j : Nat, j ≤ n ∧ i = .int .i64 j ∧ RowKit.Hid (∃ vK', LpG R w.heap.size 45 #[.int .i64 kk, .int .i64 d, .slice none 0 0, .slice a n c] kk d (l.take j) vK' w wr)) (fun i _ => n - (intOf i).toNat)
  case atStart => exact ⟨0, Nat.zero_le _, rfl, Lib.hid ⟨_, [], HP.out.1, World.ownsRow_nil _ _ _ _, (fun g hg => by cases hg), trivial⟩⟩
  case round =>
    obtain ⟨j, hj, rfl, hS⟩ := hrel
    by_cases hlt : j < n
    · obtain ⟨hf, hel, hPr, hown, hA, hrow, hcl⟩ := HP.out
      obtain ⟨x, hx⟩ : ∃ x, l[j]? = some x := ⟨l[j]'(by rw [← HN.out]; exact hlt), List.getElem?_eq_getElem _⟩
      obtain ⟨cj, hcj, hRx⟩ := All2.get hA j x hx
      obtain ⟨g, rfl, hg, -, hcell⟩ := hrow (by omega)
      have hcj4 := hcl cj (List.mem_of_getElem? hcj)
      obtain ⟨y0, y1, y2, y3, y4, y5, y6, y7, rfl⟩ := hRep.form _ _ _ _ hRx
      obtain ⟨vK', ccs', hF, hownK, hvb, hAK⟩ := hS.out
      have hfl : ∀ i, i < 4 → wr.cell? ⟨g, j * 4 + i, none⟩ = [Value.int .i64 y0, .int .i64 y1, .slice y2 y3 y4, .slice y5 y6 y7][i]? := fun i h => by
        rw [hF.bl.cell (p := ⟨g, j * 4 + i, none⟩) hg, ← flat_get ccs hcl j i _ h hcj]
        refine hcell _ ?_
        have e := hown.1
        omega
      have q0 : wr.cell? ⟨g, j * 4, none⟩ = some (.int .i64 y0) := hfl 0 (by decide)
      have q1 : wr.cell? ⟨g, j * 4 + 1, none⟩ = some (.int .i64 y1) := hfl 1 (by decide)
      have q2 : wr.cell? ⟨g, j * 4 + 2, none⟩ = some (.slice y2 y3 y4) := hfl 2 (by decide)
      have q3 : wr.cell? ⟨g, j * 4 + 3, none⟩ = some (.slice y5 y6 y7) := hfl 3 (by decide)
      have hxP := hPr x (List.mem_of_getElem? hx)
      have hcall := fun W (hb : Below w.heap.size w W) => hel F _ x W hxP (hRep.keep F w W _ _ hRx fun k _ hl => hb.block k hl)
      have htk : l.take (j + 1) = l.take j ++ [x] := by rw [List.take_add_one, hx]; rfl
      have htl : (l.take j).length = j := by rw [List.length_take]; have := HN.out; omega
      have HC := Lib.hid (And.intro hcall (And.intro htk htl))
      have HZ := Lib.hid (And.intro hF (And.intro hownK (And.intro hvb hAK)))
      have hsz : w.heap.size ≤ wr.heap.size := hF.bl.size
      clear hf hel hPr hown hA hrow hcl hx hcj hRx hcell hcj4 hfl hxP hcall htk htl hF hownK hvb hAK hS
      go_upto_block 1 with fail
      go_cut [] (fun wx => RowKit.Hid (∃ vK', LpG R w.heap.size 45 #[.int .i64 kk, .int .i64 d, .slice none 0 0, .slice (some ⟨g, 0, none⟩) n c] kk d (l.take (j + 1)) vK' w wx))
      case first =>
        go_upto_region 6 with fail
        obtain ⟨L, hL⟩ : ∃ L, L = l.take j := ⟨_, rfl⟩
        obtain ⟨W1, hW1⟩ : ∃ W1, W1 = wr.alloc (.cells #[.int .i64 y0, .int .i64 y1, .slice y2 y3 y4, .slice y5 y6 y7] 45) := ⟨_, rfl⟩
        have hbW : Below wr.heap.size wr W1 := by rw [hW1]; exact (Below.refl _ _).alloc (Nat.le_refl _) _
        have hMW : Rw wr.heap.size #[.int .i64 y0, .int .i64 y1, .slice y2 y3 y4, .slice y5 y6 y7] 45 W1 := by rw [hW1]; exact Rw.new _ _ _
        rw [← hW1]
        have hLG : LpG R w.heap.size 45 #[.int .i64 kk, .int .i64 d, .slice none 0 0, .slice (some ⟨g, 0, none⟩) n c] kk d L vK' w W1 := LpG.old hRep (by rw [hL]; exact ⟨ccs', HZ.out.1, HZ.out.2.1, HZ.out.2.2.1, HZ.out.2.2.2⟩) hbW
        obtain ⟨ccs1, hF1, hown1, hvb1, hA1⟩ := hLG
        have hcl := HC.out.1 W1.drew (hF1.bl.drew)
        have hlm : L.length ≤ 100000 := by rw [hL, HC.out.2.2]; omega
        have htk : l.take (j + 1) = L ++ [x] := by rw [hL]; exact HC.out.2.1
        have m0 : W1.cell? ⟨wr.heap.size, 0, none⟩ = some (.int .i64 y0) := hMW.cell 0 rfl
        have m1 : W1.cell? ⟨wr.heap.size, 1, none⟩ = some (.int .i64 y1) := hMW.cell 1 rfl
        have m2 : W1.cell? ⟨wr.heap.size, 2, none⟩ = some (.slice y2 y3 y4) := hMW.cell 2 rfl
        have m3 : W1.cell? ⟨wr.heap.size, 3, none⟩ = some (.slice y5 y6 y7) := hMW.cell 3 rfl
        obtain ⟨c0, c1, c2, c3⟩ := hF1.bx.cells
        have z3 := (hF1.bx.froz 3).1
        have hms : w.heap.size + 1 + 1 < W1.heap.size := hF1.bx.lt
        have HG := Lib.hid (And.intro hF1 (And.intro hown1 (And.intro hvb1 (And.intro hA1 (And.intro hcl htk)))))
        clear hF1 hown1 hvb1 hA1 hcl htk hL hW1 hbW hMW HZ HC q0 q1 q2 q3 c0 c1 c2
        go_region_law ((first
          | (refine step_call2 (by rfl) 50 Tryz.f50 Tryz.func50 fine50 _ _ _ (by rfl) _ _ (by rfl) (by rfl) HG.out.2.2.2.2.1 ?_; rintro e w3 ⟨cs, rfl, hxR, hb3⟩; obtain ⟨b0, b1, b2, b3, b4, b5, b6, b7, rfl⟩ := hRep.form _ _ _ _ hxR; have hown3 := ownsRow_keep (w' := w3) HG.out.2.1 (fun k hk hl => hb3.block k hl); obtain ⟨c33, z33⟩ := cf_of (hb3.block (w.heap.size + 1 + 1) hms) ⟨c3, z3⟩; have l33 : w.heap.size + 1 + 1 < w3.heap.size := Nat.lt_of_lt_of_le hms hb3.size; have c35 : ∀ o, (w3.alloc o).cell? ⟨w.heap.size + 1 + 1, 3, none⟩ = some vK' := fun o => (cf_of (Below.heap_alloc w3 o _ l33) ⟨c33, z33⟩).1; refine ⟨_, rfl, ?_⟩)
          | (refine step_append_lies _ (by rfl) _ _ _ (by rfl) 0 45 i0 _ 4 64 Tryz.underlying43 hi hz0 hz1 hz2 rfl (by omega) vK' L.length ccs1.flatten (by rfl) (hown3.alloc _) ⟨w3.heap.size, 0, none⟩ 1 1 [_, _, _, _] (by rfl) (by rfl) (cells_lit4 _ _ _ _ _ _ _ rfl) (by intro u hu; simp at hu; rcases hu with rfl | rfl | rfl | rfl <;> rfl) (by omega) (by unfold maxLen; omega) (by omega) (Nat.zero_le _) (w3.heap.size + 1) (by simp) ?_; intro g3 cap w4 hown4 hg4 hat hlt4; obtain ⟨c34, z34⟩ := cf_of ((hg4.block (w.heap.size + 1 + 1) (by simp; omega) (fun e => absurd (HG.out.2.2.1 _ e.symm) (by omega))).trans (Below.heap_alloc _ _ _ l33)) ⟨c33, z33⟩)))
        all_goals go_wp2_with fail
        all_goals go_meet
        all_goals
          exact Lib.hid (by rw [HG.out.2.2.2.2.2]; exact ⟨_, LpG.mk hRep HG.out.1 HG.out.2.1 HG.out.2.2.1 HG.out.2.2.2.1 (((Below.refl _ _).drew).trans hb3) hxR hown4 hg4 hat⟩)
      case rest =>
        go_wp2_with fail
        go_roundw
        case rel => exact ⟨j + 1, by omega, by go_num, hcut⟩
        case measure => simp [intOf]; omega
    · have hjn : j = n := by omega
      subst hjn
      obtain ⟨vK', hL⟩ := hS.out
      rw [HN.out, List.take_length] at hL
      obtain ⟨ccs', hF, hownK, hvb, hAK⟩ := hL
      obtain ⟨a2, e2, rfl, -⟩ := row_slice hownK
      obtain ⟨c0, c1, c2, c3⟩ := hF.bx.cells
      obtain ⟨o0, o1, o2, o3⟩ := hF.bx.out
      obtain ⟨z0, z0'⟩ := hF.bx.froz 0
      obtain ⟨z1, z1'⟩ := hF.bx.froz 1
      obtain ⟨z2, z2'⟩ := hF.bx.froz 2
      obtain ⟨z3, z3'⟩ := hF.bx.froz 3
      have HD := Lib.hid (LpG.done hRep (by rw [← HN.out]; exact hll) ⟨ccs', hF, hownK, hvb, hAK⟩)
      clear hF hownK hvb hAK hS
      go_wp2_with fail
      exact bodyPost_ret_by (results_cell_row rfl _ _ (w.heap.size + 1) 45 _ (0, 0) _ rfl HD.out.1 Tryz.underlying45 rfl (by kernel_rfl)) rfl HD.out.2
theorem frc3 (d : Nat) (F : Nat → Prop) (cs : List Value) (l : List (List Nat)) (w : World) (hd : d < 4) (h : GPc d F w cs l) : Calls Tryz.prog 50 #[.agg ⟨cs⟩, .int .i64 d] w (FrPost (GPc d) l w) :=
  frcK (GLc.rep d) (fun _ => True) 3 d F cs l w hd (fun _ _ => trivial) h fun F cs x W _ hR => frcL d F cs x W hd hR
theorem frc6 (d : Nat) (F : Nat → Prop) (cs : List Value) (l : List (List (List Nat))) (w : World) (hd : d < 4) (h : GMc d F w cs l) : Calls Tryz.prog 50 #[.agg ⟨cs⟩, .int .i64 d] w (FrPost (GMc d) l w) :=
  frcK (GKc.rep (GLc.rep d) 3 d) (fun _ => True) 6 d F cs l w hd (fun _ _ => trivial) h fun F cs x W _ hR => frc3 d F cs x W hd hR
end Go.Proofs.YtblpcpkkjbkakaaGreatDoor
/- The reference's making of a line anew: what its end leaves. -/
namespace Go.Proofs.YtblpcpkkjbkakaaGreatDoor
open Go Go.RowKit
set_option linter.unusedVariables false
set_option linter.unusedSimpArgs false

theorem b33 (d : Nat) (hd : d < 4) : bits BinOp.and IntKind.i64 (d : Int) 3 = d := by
  obtain rfl | rfl | rfl | rfl : d = 0 ∨ d = 1 ∨ d = 2 ∨ d = 3 := by omega
  all_goals kernel_rfl
theorem app_none (a : Option Addr) (c : Nat) (W : World) : (Builtin.append_ #[42, 42] 42 #[.slice none 0 0, .slice a 0 c]).run Tryz.prog W = .ok (.slice none 0 0) W := by
  cases a <;> kernel_rfl
theorem ownsRow_cap {b e sz n m c : Nat} {a : Option Addr} {w : World} {xs : List Value} (h : w.ownsRow b e sz (.slice a n c) m xs) : n ≤ c ∧ c ≤ 9223372036854775807 ∧ n = m := by
  rcases h.2 with ⟨h1, h2⟩ | ⟨g, cap, cur, h1, hb, hh, hn, hcap, hr⟩
  · cases h1; exact ⟨Nat.le_refl _, by omega, h2.symm⟩
  · cases h1; exact ⟨hn, by unfold maxLen at hcap; omega, rfl⟩
/-- A line's numbers are copied: the end. -/
theorem newL_fin {d n g3 cap : Nat} {a : Array Value} {k : Nat} {xs : List Nat} {w W0 w4 : World} (hok : LnOk d xs) (hx : xs.length = n) (hF : F3 w.heap.size 45 a 2 d (.slice none 0 0) (.slice none 0 0) w W0) (hg4 : (W0.drewN k).grownBy w4 none) (hat : g3 = W0.heap.size)
    (hown4 : w4.ownsRow 0 25 1 (.slice (some ⟨g3, 0, none⟩) n cap) n (fcells xs)) :
    Rw (w.heap.size + 1) #[.int .i64 2, .int .i64 d, .slice (some ⟨g3, 0, none⟩) n cap, .slice none 0 0] 45 (((((w4.setCell ⟨w.heap.size + 1 + 1, 2, none⟩ (.slice (some ⟨g3, 0, none⟩) n cap)).setCell ⟨w.heap.size + 1, 0, none⟩ (.int .i64 2)).setCell ⟨w.heap.size + 1, 1, none⟩ (.int .i64 d)).setCell ⟨w.heap.size + 1, 2, none⟩ (.slice (some ⟨g3, 0, none⟩) n cap)).setCell ⟨w.heap.size + 1, 3, none⟩ (.slice none 0 0)) ∧
    FrPost (GLc d) xs w (.returned (.agg #[.int .i64 2, .int .i64 d, .slice (some ⟨g3, 0, none⟩) n cap, .slice none 0 0])) (((((w4.setCell ⟨w.heap.size + 1 + 1, 2, none⟩ (.slice (some ⟨g3, 0, none⟩) n cap)).setCell ⟨w.heap.size + 1, 0, none⟩ (.int .i64 2)).setCell ⟨w.heap.size + 1, 1, none⟩ (.int .i64 d)).setCell ⟨w.heap.size + 1, 2, none⟩ (.slice (some ⟨g3, 0, none⟩) n cap)).setCell ⟨w.heap.size + 1, 3, none⟩ (.slice none 0 0)) := by
  have hk : ∀ i, i < W0.heap.size → w4.heap[i]? = W0.heap[i]? := fun i hi => hg4.block i hi (fun e => by cases e)
  have hlt := hF.bx.lt
  have hF4 : F3 w.heap.size 45 a 2 d (.slice none 0 0) (.slice none 0 0) w w4 :=
    ⟨hF.rb.kp (hk _ hF.rb.lt), hF.bx.keep (hk _ (by omega)) (hk _ hlt), (below_drewN hF.bl k).grown hg4 (by show w.heap.size ≤ W0.heap.size; omega) (fun _ e => by cases e)⟩
  have hfin := (hF4.set2 (.slice (some ⟨g3, 0, none⟩) n cap)).fin (.int .i64 2) (.int .i64 d) (.slice (some ⟨g3, 0, none⟩) n cap) (.slice none 0 0)
  refine ⟨hfin.1, _, rfl, ⟨_, rfl, ?_, fun i hi => ?_, hok⟩, hfin.2⟩
  · rw [hx]
    refine ownsRow_keep hown4 fun i hi _ => ?_
    have : g3 = i := by simpa [Value.ownBlock] using hi
    rw [set4_keep _ _ _ _ _ _ _ (by omega), Below.heap_setCell _ _ _ _ (by show i ≠ w.heap.size + 1 + 1; omega)]
  · have : g3 = i := by simpa [Value.ownBlock] using hi
    omega
theorem newL0_fin {d : Nat} {a : Array Value} (k : Nat) (xs : List Nat) {w W0 : World} (hx : xs.length = 0) (hF : F3 w.heap.size 45 a 2 d (.slice none 0 0) (.slice none 0 0) w W0) :
    Rw (w.heap.size + 1) #[.int .i64 2, .int .i64 d, .slice none 0 0, .slice none 0 0] 45 ((((((W0.drewN (k + 1)).setCell ⟨w.heap.size + 1 + 1, 2, none⟩ (.slice none 0 0)).setCell ⟨w.heap.size + 1, 0, none⟩ (.int .i64 2)).setCell ⟨w.heap.size + 1, 1, none⟩ (.int .i64 d)).setCell ⟨w.heap.size + 1, 2, none⟩ (.slice none 0 0)).setCell ⟨w.heap.size + 1, 3, none⟩ (.slice none 0 0)) ∧
    FrPost (GLc d) xs w (.returned (.agg #[.int .i64 2, .int .i64 d, .slice none 0 0, .slice none 0 0])) ((((((W0.drewN (k + 1)).setCell ⟨w.heap.size + 1 + 1, 2, none⟩ (.slice none 0 0)).setCell ⟨w.heap.size + 1, 0, none⟩ (.int .i64 2)).setCell ⟨w.heap.size + 1, 1, none⟩ (.int .i64 d)).setCell ⟨w.heap.size + 1, 2, none⟩ (.slice none 0 0)).setCell ⟨w.heap.size + 1, 3, none⟩ (.slice none 0 0)) := by
  have hF4 : F3 w.heap.size 45 a 2 d (.slice none 0 0) (.slice none 0 0) w (W0.drewN (k + 1)) := hF.old (below_drewN (Below.refl _ _) _)
  have hfin := (hF4.set2 (.slice none 0 0)).fin (.int .i64 2) (.int .i64 d) (.slice none 0 0) (.slice none 0 0)
  obtain rfl : xs = [] := List.eq_nil_of_length_eq_zero hx
  exact ⟨hfin.1, _, rfl, ⟨_, rfl, World.ownsRow_nil _ _ _ _, (fun i hi => by cases hi), LnOk.nil d⟩, hfin.2⟩
theorem fine48 : (Tryz.f48.name == "runtime.NumGoroutine" || Tryz.f48.body.isNone) = false := by kernel_rfl
end Go.Proofs.YtblpcpkkjbkakaaGreatDoor
