/- Lemmas towards the seat's laws: 4 texts joined. -/
import Derived.Test.YtblpcpkkjbkakaaGreatDoorY41
import Derived.Deep.RegionLaw
import Derived.Deep.AppendLies
import Derived.Deep.DrawnRows
/- The reference's reading of a line's body. -/
namespace Go.Proofs.YtblpcpkkjbkakaaGreatDoor
open Go Go.RowKit
set_option linter.unusedVariables false
set_option linter.unusedSimpArgs false

theorem RdS.drew {r q : Nat} {bad : Bool} {T : List Tok} {w : World} (h : RdS r q bad T w) : RdS r q bad T w.drew := ⟨h.rd, h.ne, h.ql⟩
theorem Rf.frozen {r : Nat} {w w' : World} (h : Rf r w w') (k i : Nat) (hk : k < w.heap.size) (hr : k ≠ r) : w'.frozen? ⟨k, i, none⟩ = w.frozen? ⟨k, i, none⟩ := by
  simp only [World.frozen?, h.kp k hk hr]
theorem cf_of {w w' : World} {k i : Nat} {v : Value} (h : w'.heap[k]? = w.heap[k]?) (hc : w.cell? ⟨k, i, none⟩ = some v ∧ w.frozen? ⟨k, i, none⟩ = false) : w'.cell? ⟨k, i, none⟩ = some v ∧ w'.frozen? ⟨k, i, none⟩ = false := by
  simp only [World.cell?, World.frozen?, h] at hc ⊢
  exact hc
/-- A call as one step of a region that draws. -/
theorem step_call {P : Program} {ops : Array Oper} {o : Oper} {a : Act} {w : World} {K : Act → World → Prop} {Q : Exit → Act → World → Prop} {E : Prop} (hg : o.guard = none) (f : FuncId) (fn : Func) (hfn : P.funcs[f]? = some fn) (hb : (fn.name == "runtime.NumGoroutine" || fn.body.isNone) = false) (xs : Array Operand) (ts : Array TypeId)
    (hop : o.op = .call { callee := .value (.func f), args := xs, argTypes := ts }) (vs : Array Value) (hx : xs.map a.eval = vs) {Post : Ending → World → Prop} (hc : Calls P f vs w Post)
    (hr : ∀ e w', Post e w' → ∃ v, e = .returned v ∧ K (a.put o.dst v) w') : if Region.wanted o (yielded ops a.tmps) = true then Oper.wp P o a w K Q else E := by
  have hw : Region.wanted o (yielded ops a.tmps) = true := by simp [Region.wanted, hg]
  rw [if_pos hw]
  unfold Oper.wp
  have hrun : (execOp a.eval o).run P w = .ok (.enter f vs) w := by
    subst hx
    simp only [Bool.or_eq_false_iff, beq_eq_false_iff_ne, ne_eq] at hb
    simp [execOp, hop, resolve, invoke, Act.eval, Result.andThen, Deferred.ofValue, callFunc, hfn, hb.1]
    have hn : fn.body ≠ none := fun e => by rw [e] at hb; exact absurd hb.2 (by decide)
    first | (constructor <;> (intros; exact absurd (by assumption) hn)) | (intros; exact absurd (by assumption) hn) | simp [hn]
  rw [hrun, Oper.upon_enter]
  refine hc.mono ?_
  intro e w' h
  obtain ⟨v, rfl, hk⟩ := hr e w' h
  exact hk

theorem step_call2 {P : Program} {ops : Array Oper} {o : Oper} {a : Act} {w : World} {K : Act → World → Prop} {Q : Exit → Act → World → Prop} {E : Prop} (hg : o.guard = none) (f : FuncId) (fn : Func) (hfn : P.funcs[f]? = some fn) (hb : (fn.name == "runtime.NumGoroutine" || fn.body.isNone) = false) (x y : Operand) (ts : Array TypeId)
    (hop : o.op = .call { callee := .value (.func f), args := #[x, y], argTypes := ts }) (vx vy : Value) (hx : a.eval x = vx) (hy : a.eval y = vy) {Post : Ending → World → Prop} (hc : Calls P f #[vx, vy] w Post)
    (hr : ∀ e w', Post e w' → ∃ v, e = .returned v ∧ K (a.put o.dst v) w') : if Region.wanted o (yielded ops a.tmps) = true then Oper.wp P o a w K Q else E :=
  step_call hg f fn hfn hb #[x, y] ts hop #[vx, vy] (by simp [hx, hy]) hc hr
theorem step_call3 {P : Program} {ops : Array Oper} {o : Oper} {a : Act} {w : World} {K : Act → World → Prop} {Q : Exit → Act → World → Prop} {E : Prop} (hg : o.guard = none) (f : FuncId) (fn : Func) (hfn : P.funcs[f]? = some fn) (hb : (fn.name == "runtime.NumGoroutine" || fn.body.isNone) = false) (x y z : Operand) (ts : Array TypeId)
    (hop : o.op = .call { callee := .value (.func f), args := #[x, y, z], argTypes := ts }) (vx vy vz : Value) (hx : a.eval x = vx) (hy : a.eval y = vy) (hz : a.eval z = vz) {Post : Ending → World → Prop} (hc : Calls P f #[vx, vy, vz] w Post)
    (hr : ∀ e w', Post e w' → ∃ v, e = .returned v ∧ K (a.put o.dst v) w') : if Region.wanted o (yielded ops a.tmps) = true then Oper.wp P o a w K Q else E :=
  step_call hg f fn hfn hb #[x, y, z] ts hop #[vx, vy, vz] (by simp [hx, hy, hz]) hc hr
theorem fine78 : (Tryz.f78.name == "runtime.NumGoroutine" || Tryz.f78.body.isNone) = false := by kernel_rfl
theorem RdRel.map {β γ : Type} {X : Option (β × List Tok)} {bad b : Bool} {x : β} {T' : List Tok} (h : RdRel X bad b x T') (F : β → γ) : RdRel (X.map fun y => (F y.1, y.2)) bad b (F x) T' := by
  rcases h with ⟨h1, h2, h3⟩ | ⟨h1, h2⟩
  · exact .inl ⟨h1, h2, by rw [h3]; rfl⟩
  · refine .inr ⟨h1, ?_⟩
    rcases h2 with h | h
    · exact .inl h
    · exact .inr (by rw [h]; rfl)
/-- What reading a body leaves. -/
def BdPost {β : Type} (R : (Nat → Prop) → World → List Value → β → Prop) (X : Option (β × List Tok)) (r q : Nat) (bad : Bool) (T : List Tok) (w : World) (e : Ending) (w' : World) : Prop :=
  ∃ cs x bad' T', e = .returned (.agg ⟨cs⟩) ∧ R (fun k => w.heap.size ≤ k) w' cs x ∧ RdS r q bad' T' w' ∧ Rf r w w' ∧ T' <:+ T ∧ RdRel X bad bad' x T'

theorem bodyP_cons {α : Type} (f : List Tok → Option (α × List Tok)) (t : Tok) (T : List Tok) : bodyP f (t :: T) = if t.1 = 97 ∧ t.2 = emptyW then some ([], T) else if t.1 = 40 then mny f T.length T else none := rfl
/-- The parenthesis is taken, or it is not there. -/
theorem LpRel.start {α : Type} {f : List Tok → Option (α × List Tok)} {r q : Nat} {bad : Bool} {T : List Tok} {x : ByteArray} {w2 : World} (hne : ¬ (bad = false ∧ ∃ t T', T = t :: T' ∧ t.1 = 97 ∧ t.2 = emptyW))
    (hx : (∃ t T', bad = false ∧ T = t :: T' ∧ t.1.toNat = 40 ∧ x = ⟨t.2.toArray⟩ ∧ RdS r q false T' w2) ∨ (nxk bad T ≠ 40 ∧ x = ⟨#[]⟩ ∧ RdS r q true T w2)) : ∃ bj Tj, RdS r q bj Tj w2 ∧ Tj <:+ T ∧ LpRel f bad T bj [] Tj := by
  rcases hx with ⟨t, T', rfl, rfl, h40, -, hR⟩ | ⟨h, -, hR⟩
  · refine ⟨false, T', hR, List.suffix_cons _ _, .inl ⟨rfl, rfl, T'.length, Nat.le_refl _, ?_⟩⟩
    have h40' : t.1 = 40 := UInt8.toNat_inj.1 h40
    rw [bodyP_cons, if_neg (fun e => by rw [h40'] at e; exact absurd e.1 (by decide)), if_pos h40']
    cases mny f T'.length T' <;> simp
  · refine ⟨true, T, hR, List.suffix_refl _, .inr ⟨rfl, ?_⟩⟩
    cases bad with
    | true => exact .inl rfl
    | false =>
      right
      cases T with
      | nil => rfl
      | cons t T' =>
        rw [bodyP_cons, if_neg (fun e => hne ⟨rfl, t, T', rfl, e.1, e.2⟩), if_neg (fun e => h (by show t.1.toNat = 40; rw [e]; rfl))]
/-- The geometry that is made, in the block behind m; its result's cells in block m. -/
def GBox (k d m : Nat) (vN vK : Value) (wr : World) : Prop :=
  wr.heap[m]? = some (.cells #[.int .i64 0, .int .i64 0, .slice none 0 0, .slice none 0 0] 45 (0, 0)) ∧ wr.heap[m + 1]? = some (.cells #[.int .i64 k, .int .i64 d, vN, vK] 45 (0, 0))
theorem GBox.keep {k d m : Nat} {vN vK : Value} {w w' : World} (h : GBox k d m vN vK w) (h0 : w'.heap[m]? = w.heap[m]?) (h1 : w'.heap[m + 1]? = w.heap[m + 1]?) : GBox k d m vN vK w' := ⟨h0.trans h.1, h1.trans h.2⟩
theorem GBox.lt {k d m : Nat} {vN vK : Value} {w : World} (h : GBox k d m vN vK w) : m + 1 < w.heap.size := (Array.getElem?_eq_some_iff.1 h.2).1
theorem GBox.rf {k d m r : Nat} {vN vK : Value} {w w' : World} (h : GBox k d m vN vK w) (hf : Rf r w w') (hr : r < m) : GBox k d m vN vK w' :=
  h.keep (hf.kp _ (by have := h.lt; omega) (by omega)) (hf.kp _ h.lt (by omega))
theorem GBox.cells {k d m : Nat} {vN vK : Value} {w : World} (h : GBox k d m vN vK w) : w.cell? ⟨m + 1, 0, none⟩ = some (.int .i64 k) ∧ w.cell? ⟨m + 1, 1, none⟩ = some (.int .i64 d) ∧ w.cell? ⟨m + 1, 2, none⟩ = some vN ∧ w.cell? ⟨m + 1, 3, none⟩ = some vK := by
  refine ⟨?_, ?_, ?_, ?_⟩ <;> (rw [cell_of_row w (m + 1) _ _ _ _ h.2]; rfl)
theorem GBox.out {k d m : Nat} {vN vK : Value} {w : World} (h : GBox k d m vN vK w) : w.cell? ⟨m, 0, none⟩ = some (.int .i64 0) ∧ w.cell? ⟨m, 1, none⟩ = some (.int .i64 0) ∧ w.cell? ⟨m, 2, none⟩ = some (.slice none 0 0) ∧ w.cell? ⟨m, 3, none⟩ = some (.slice none 0 0) := by
  refine ⟨?_, ?_, ?_, ?_⟩ <;> (rw [cell_of_row w m _ _ _ _ h.1]; rfl)
theorem GBox.froz {k d m : Nat} {vN vK : Value} {w : World} (h : GBox k d m vN vK w) (i : Nat) : w.frozen? ⟨m + 1, i, none⟩ = false ∧ w.frozen? ⟨m, i, none⟩ = false := by
  simp [World.frozen?, h.1, h.2]
theorem GBox.set2 {k d m : Nat} {vN vK : Value} {w : World} (h : GBox k d m vN vK w) (v : Value) : GBox k d m v vK (w.setCell ⟨m + 1, 2, none⟩ v) := by
  refine ⟨?_, ?_⟩
  · rw [Below.heap_setCell _ _ _ _ (by show m ≠ m + 1; omega)]; exact h.1
  · simp [World.setCell, Array.getElem?_modify, h.2]
theorem GBox.set3 {k d m : Nat} {vN vK : Value} {w : World} (h : GBox k d m vN vK w) (v : Value) : GBox k d m vN v (w.setCell ⟨m + 1, 3, none⟩ v) := by
  refine ⟨?_, ?_⟩
  · rw [Below.heap_setCell _ _ _ _ (by show m ≠ m + 1; omega)]; exact h.1
  · simp [World.setCell, Array.getElem?_modify, h.2]
theorem gbox_new (k d : Nat) (w : World) : GBox k d w.heap.size (.slice none 0 0) (.slice none 0 0) ((w.alloc (.cells #[.int .i64 0, .int .i64 0, .slice none 0 0, .slice none 0 0] 45)).alloc (.cells #[.int .i64 k, .int .i64 d, .slice none 0 0, .slice none 0 0] 45)) := by
  refine ⟨?_, ?_⟩
  · rw [Below.heap_alloc _ _ _ (by simp)]
    exact heap_alloc_new w _
  · have := heap_alloc_new (w.alloc (.cells #[.int .i64 0, .int .i64 0, .slice none 0 0, .slice none 0 0] 45)) (.cells #[.int .i64 k, .int .i64 d, .slice none 0 0, .slice none 0 0] 45)
    simpa using this

/-- The loop over a line's places. -/
def Lp2 (r q d m : Nat) (bad : Bool) (T : List Tok) (w : World) (k : Nat) (wr : World) : Prop :=
  ∃ l vN bj Tj, Tj.length = k ∧ RdS r q bj Tj wr ∧ Rf r w wr ∧ GBox 2 d m vN (.slice none 0 0) wr ∧ wr.ownsRow 0 25 1 vN l.flatten.length (fcells l.flatten) ∧ (∀ g, vN.ownBlock = some g → m + 2 ≤ g) ∧ Tj <:+ T ∧ LpRel (plS (wid d)) bad T bj l Tj ∧ l.flatten.length + 4 * k ≤ 4 * T.length ∧ l.flatten.length = l.length * wid d ∧ l.length + k ≤ T.length
/-- One place more in a line. -/
def Mid2 (r q d m : Nat) (l : List (List Nat)) (vN : Value) (bj : Bool) (Tj : List Tok) (w wx : World) : Prop :=
  ∃ xs b1 T1 vN', RdS r q b1 T1 wx ∧ Rf r w wx ∧ GBox 2 d m vN' (.slice none 0 0) wx ∧ wx.ownsRow 0 25 1 vN' (l ++ [xs]).flatten.length (fcells (l ++ [xs]).flatten) ∧ (∀ g, vN'.ownBlock = some g → m + 2 ≤ g) ∧ T1 <:+ Tj ∧ RdRel (plS (wid d) Tj) bj b1 xs T1 ∧ xs.length = wid d
theorem GBox.fin {k d m : Nat} {vN vK : Value} {w : World} (h : GBox k d m vN vK w) (a b c e : Value) : ((((w.setCell ⟨m, 0, none⟩ a).setCell ⟨m, 1, none⟩ b).setCell ⟨m, 2, none⟩ c).setCell ⟨m, 3, none⟩ e).heap[m]? = some (.cells #[a, b, c, e] 45 (0, 0)) := by
  simp [World.setCell, Array.getElem?_modify, h.1]
theorem Rf.own {r m : Nat} {w w1 w2 : World} (h : Rf r w w1) (hm : w.heap.size ≤ m) (hd : DFr m w1 w2) : Rf r w w2 :=
  ⟨h.bl.trans hd.2.1, fun k hk hr => (hd.1 k (by omega)).trans (h.kp k hk hr)⟩
theorem RdS.own {r q m : Nat} {bad : Bool} {T : List Tok} {w w' : World} (h : RdS r q bad T w) (hd : DFr m w w') (hr : r < m) (hq : q < m) : RdS r q bad T w' :=
  h.keep (Nat.le_of_eq hd.2.2.symm) (hd.1 _ (by omega)) (hd.1 _ (by omega))
theorem mid2_mk {r q d : Nat} {l : List (List Nat)} {vN : Value} {bj b1 : Bool} {Tj T1 : List Tok} {w wr w3 w4 : World} {xs fl : List Nat} {g3 cap : Nat} (hfl0 : l.flatten = fl) (hrf : Rf r w wr) (hbox : GBox 2 d w.heap.size vN (.slice none 0 0) wr) (hvb : ∀ g, vN.ownBlock = some g → w.heap.size + 2 ≤ g)
    (hrl : r < w.heap.size) (hql : q < w.heap.size) (hxl : xs.length = wid d) (hR3 : RdS r q b1 T1 w3) (hrf3 : Rf r wr.drew w3) (hsf : T1 <:+ Tj) (hp : RdRel (plS (wid d) Tj) bj b1 xs T1)
    (hown : w4.ownsRow 0 25 1 (.slice (some ⟨g3, 0, none⟩) (fl.length + wid d) cap) (fl.length + wid d) (fcells fl ++ fcells xs)) (hg4 : w3.grownBy w4 vN.ownBlock) (hat : vN.ownBlock = some g3 ∨ g3 = w3.heap.size) :
    Mid2 r q d w.heap.size l vN bj Tj w (w4.setCell ⟨w.heap.size + 1, 2, none⟩ (.slice (some ⟨g3, 0, none⟩) (fl.length + wid d) cap)) := by
  have hd : DFr (w.heap.size + 1) w4 (w4.setCell ⟨w.heap.size + 1, 2, none⟩ (.slice (some ⟨g3, 0, none⟩) (fl.length + wid d) cap)) := (DFr.refl _ _).set _ _
  have hrf3' : Rf r wr w3 := (Rf.ofOld (Below.refl _ _).drew).trans hrf3
  have hms := hbox.lt
  have h3 : w.heap.size + 1 < w3.heap.size := Nat.lt_of_lt_of_le hms hrf3'.bl.size
  have hg3 : w.heap.size + 2 ≤ g3 := by
    rcases hat with h | h
    · exact hvb _ h
    · omega
  have hfl : (l ++ [xs]).flatten = fl ++ xs := by rw [← hfl0]; simp
  refine ⟨xs, b1, T1, _, (hR3.grown hg4 hvb (by omega) (by omega)).own hd (by omega) (by omega), ((hrf.trans hrf3').grown hg4 (fun k hk => by have := hvb k hk; omega)).own (by omega) hd,
    ((hbox.rf hrf3' hrl).keep (hg4.block _ (by omega) (fun e => by have := hvb _ e.symm; omega)) (hg4.block _ h3 (fun e => by have := hvb _ e.symm; omega))).set2 _, ?_, fun g hg => ?_, hsf, hp, hxl⟩
  · rw [hfl, List.length_append, hxl]
    refine ownsRow_keep ?_ fun k hk _ => hd.1 k ?_
    · unfold fcells at hown ⊢
      rw [List.map_append]
      exact hown
    · have : g3 = k := by simpa [Value.ownBlock] using hk
      omega
  · have : g3 = g := by simpa [Value.ownBlock] using hg
    omega
set_option maxRecDepth 100000 in
set_option maxHeartbeats 4000000 in
theorem rbody2 (r q d : Nat) (bad : Bool) (T : List Tok) (B : Nat) (g gl gp : Nat × Nat) (w : World) (h : RdS r q bad T w) (hd : d < 4) (hok : TksOk T) (hG : GlN B g gl gp w) (hr : B ≤ r) (hT : T.length ≤ 99999) :
    Calls Tryz.prog 55 #[.pointer (some ⟨r, 0, none⟩), .int .i64 2, .int .i64 d] w (BdPost (GLc d) (lineP d T) r q bad T w) := by
  have HG := Lib.hid (And.intro h (And.intro hok hG)); clear h hok hG
  obtain ⟨i0, hi, hz0, hz1, hz2⟩ := info_parts info25
  have hbox := gbox_new 2 d w
  have hb0 : Below w.heap.size w ((w.alloc (.cells #[.int .i64 0, .int .i64 0, .slice none 0 0, .slice none 0 0] 45)).alloc (.cells #[.int .i64 ((2 : Nat) : Int), .int .i64 d, .slice none 0 0, .slice none 0 0] 45)) := ((Below.refl _ _).alloc (Nat.le_refl _) _).alloc (by simp) _
  have hwd := rword r q emptyW bad T _ (HG.out.1.keepO hb0)
  have HW := Lib.hid hwd
  have HB := Lib.hid (And.intro hbox hb0)
  clear hbox hb0 hwd
  go_enter Tryz.func55, Tryz.ntmps55
  go_upto_if 12 with (go_at_call 53; refine HW.out.mono ?_; rintro e w1 ⟨b, rfl, hx, hD⟩)
  have hrl : r < w.heap.size := HG.out.1.lt
  have hql : q < w.heap.size := HG.out.1.ql
  have hbox1 := HB.out.1.rf (Rf.ofD hD) hrl
  have hrf1 : Rf r w w1 := (Rf.ofOld HB.out.2).trans (Rf.ofD hD)
  have hb1 : b = true ∨ b = false := by cases b <;> simp
  rcases hb1 with rfl | rfl
  · obtain ⟨c0, c1, c2, c3⟩ := hbox1.cells
    obtain ⟨o0, o1, o2, o3⟩ := hbox1.out
    obtain ⟨z0, z0'⟩ := hbox1.froz 0
    obtain ⟨z1, z1'⟩ := hbox1.froz 1
    obtain ⟨z2, z2'⟩ := hbox1.froz 2
    obtain ⟨z3, z3'⟩ := hbox1.froz 3
    have HX := Lib.hid (And.intro hx (And.intro hrf1 (And.intro hbox1 (And.intro hrl hql))))
    clear hx hrf1 hbox1 hrl hql hD HW HB
    go_wp2_with fail
    have hd4 : DFr w.heap.size w1 ((((w1.setCell ⟨w.heap.size, 0, none⟩ (.int .i64 2)).setCell ⟨w.heap.size, 1, none⟩ (.int .i64 d)).setCell ⟨w.heap.size, 2, none⟩ (.slice none 0 0)).setCell ⟨w.heap.size, 3, none⟩ (.slice none 0 0)) := ((((DFr.refl _ _).set _ _).set _ _).set _ _).set _ _
    obtain ⟨hx, x1, x2, x3, x4⟩ := HX.out
    refine bodyPost_ret_by (results_cell_row rfl _ _ w.heap.size 45 _ (0, 0) _ rfl (x2.fin _ _ _ _) Tryz.underlying45 rfl (by kernel_rfl)) rfl ?_
    rcases hx with ⟨-, t, T', rfl, rfl, h97, he, hR⟩ | ⟨h, -⟩
    · refine ⟨_, [], false, T', rfl, ⟨_, rfl, World.ownsRow_nil _ _ _ _, (fun k hk => by cases hk), LnOk.nil d⟩, hR.own hd4 x3 x4, x1.own (Nat.le_refl _) hd4, List.suffix_cons _ _, .inl ⟨rfl, rfl, ?_⟩⟩
      unfold lineP
      rw [bodyP_cons, if_pos ⟨h97, he⟩]; rfl
    · cases h
  · have hbad : ¬ (bad = false ∧ ∃ t T', T = t :: T' ∧ t.1 = 97 ∧ t.2 = emptyW) ∧ RdS r q bad T w1 := by
      rcases hx with ⟨h, -⟩ | ⟨-, h⟩
      · cases h
      · exact h
    obtain ⟨hne, hR1⟩ := hbad
    have htk := rtake r q 40 bad T w1 hR1 (by decide) (by decide)
    have HX := Lib.hid (And.intro hne (And.intro hrf1 (And.intro hbox1 (And.intro hrl (And.intro hql htk)))))
    clear hx hrf1 hbox1 hrl hql hD HW HB hne hR1 htk
    go_upto_block 0 with (go_at_call 51; refine HX.out.2.2.2.2.2.mono ?_; rintro e w2 ⟨x, rfl, hx, hD⟩)
    obtain ⟨bj, Tj, hR, hsf, hLp⟩ := LpRel.start (f := plS (wid d)) HX.out.1 hx
    have hL2 : Lp2 r q d w.heap.size bad T w Tj.length w2 := ⟨[], _, bj, Tj, rfl, hR, HX.out.2.1.trans (Rf.ofD hD), HX.out.2.2.1.rf (Rf.ofD hD) HX.out.2.2.2.1, World.ownsRow_nil _ _ _ _, (fun g hg => by cases hg), hsf, hLp, by have := hsf.length_le; simp; omega, by simp, by have := hsf.length_le; simp; omega⟩
    have HL := Lib.hid (And.intro hL2 (And.intro HX.out.2.2.2.1 HX.out.2.2.2.2.1))
    clear hR hsf hLp hL2 hx hD HX
    generalize Tj.length = n0 at HL
    go_wp2_with fail
    go_loopg [] n0 (fun k wr => RowKit.Hid (Lp2 r q d w.heap.size bad T w k wr))
    case atStart => exact Lib.hid HL.out.1
    case round =>
      obtain ⟨l, vN, bj, Tj, hk, hR, hrf, hbox, hown, hvb, hsf, hLp, hlen, hfw, hlk⟩ := hrel.out
      obtain ⟨hrl, hql⟩ := HL.out.2
      have hG := HG.out.2.2.rf hrf hr
      have hokj := HG.out.2.1.suffix hsf
      have hpl := rplace r q d bj Tj B g gl gp wr.drew hR.drew hd hokj (hG.keepO (Below.refl _ _).drew) hr
      have HPL := Lib.hid hpl
      have hw0 : 0 < wid d := by unfold wid; omega
      have hw4 : wid d ≤ 4 := by unfold wid; omega
      obtain ⟨n, hn⟩ : ∃ n, n = wid d := ⟨_, rfl⟩
      have HS := Lib.hid (And.intro hk (And.intro hR (And.intro hrf (And.intro hbox (And.intro hown (And.intro hvb (And.intro hsf (And.intro hLp (And.intro hlen (And.intro hfw hlk))))))))))
      have c2 := hbox.cells.2.2.1
      have z2 := (hbox.froz 2).1
      have hms : w.heap.size + 1 < wr.heap.size := hbox.lt
      have leaf2 := fun W => leaf_any 2 W (.inl rfl)
      have HLF := Lib.hid leaf2
      have hlt4 : l.flatten.length ≤ 400000 := by omega
      obtain ⟨fl, hfl⟩ : ∃ fl, l.flatten = fl := ⟨_, rfl⟩
      rw [hfl] at hlt4 hown
      have HFL := Lib.hid (And.intro hfl hown)
      have HW4 := Lib.hid (And.intro hn (And.intro hw0 hw4))
      clear hfl hk hR hrf hbox hown hvb hsf hLp hlen hfw hlk hG hokj hpl leaf2 hrel hn hw0 hw4
      go_upto_block 2 with fail
      go_cut [] (fun wx => RowKit.Hid (Mid2 r q d w.heap.size l vN bj Tj w wx))
      case first =>
        go_upto_region 7 with (go_at_call 47; refine (HLF.out _).mono ?_; rintro e w' ⟨rfl, rfl⟩)
        go_region_law ((first
          | (refine step_call2 (by rfl) 78 Tryz.f78 Tryz.func78 fine78 _ _ _ (by rfl) _ _ (by rfl) (by rfl) HPL.out ?_; rintro e w3 ⟨v, rfl, xs, b1, T1, hxl, hov, hR3, hrf3, hsf3, hp3⟩; obtain ⟨gv, cv, rfl, hgv1, hgv2⟩ := hov.form HW4.out.2.1; have hown3 := ownsRow_keep (w' := w3) HFL.out.2 (fun k hk hl => hrf3.kp k hl (by have := HS.out.2.2.2.2.2.1 k hk; omega)); obtain ⟨c23, z23⟩ := cf_of (hrf3.kp (w.heap.size + 1) hms (by omega)) ⟨c2, z2⟩; refine ⟨_, rfl, ?_⟩)
          | (refine step_append_lies _ (by rfl) _ _ _ (by rfl) 0 25 i0 _ 1 8 Tryz.underlying42 hi hz0 hz1 hz2 rfl (by omega) vN fl.length (fcells fl) (by rfl) hown3 ⟨gv, 0, none⟩ (wid d) cv (fcells xs) (by rfl) (by unfold fcells; rw [List.length_map, hxl, Nat.mul_one]) (hov.cells rfl) (by intro u hu; unfold fcells at hu; rw [List.mem_map] at hu; obtain ⟨x, -, rfl⟩ := hu; rfl) HW4.out.2.1 (by have := HW4.out.2.2; unfold maxLen; omega) (by have := HW4.out.2.2; omega) (Nat.zero_le _) w3.heap.size rfl ?_; intro g3 cap w4 hown4 hg4 hat hlt; obtain ⟨c24, z24⟩ := cf_of (hg4.block (w.heap.size + 1) (Nat.lt_of_lt_of_le hms hrf3.bl.size) (fun e => absurd (HS.out.2.2.2.2.2.1 _ e.symm) (by omega))) ⟨c23, z23⟩)))
        all_goals go_wp2_with fail
        all_goals go_meet
        case rel =>
          exact Lib.hid (mid2_mk HFL.out.1 HS.out.2.2.1 HS.out.2.2.2.1 HS.out.2.2.2.2.2.1 hrl hql hxl hR3 hrf3 hsf3 hp3 hown4 hg4 hat)
        case rel =>
          exact Lib.hid (mid2_mk HFL.out.1 HS.out.2.2.1 HS.out.2.2.2.1 HS.out.2.2.2.2.2.1 hrl hql hxl hR3 hrf3 hsf3 hp3 hown4 hg4 hat)
      case rest =>
        obtain ⟨xs, b1, T1, vN', hR1, hrf1, hbox1, hown1, hvb1, hsf1, he1, hxl⟩ := hcut.out
        obtain ⟨ga, gn, gc, rfl⟩ := ownsRow_slice hown1
        have hn := rnext r q b1 T1 wc hR1
        have ht44 := rtake r q 44 b1 T1 wc hR1 (by decide) (by decide)
        have ht41 := rtake r q 41 b1 T1 wc hR1 (by decide) (by decide)
        obtain ⟨k2, hk2⟩ : ∃ k2, k2 = nxk b1 T1 := ⟨_, rfl⟩
        rw [← hk2] at hn
        have HN := Lib.hid hn
        have HT := Lib.hid (And.intro ht44 ht41)
        have HC := Lib.hid (And.intro hrf1 (And.intro hbox1 (And.intro hown1 (And.intro hvb1 (And.intro hsf1 (And.intro he1 hxl))))))
        clear hn ht44 ht41 hR1 hrf1 hbox1 hown1 hvb1 hsf1 he1 hxl hcut HPL HLF c2 z2
        by_cases h44 : k2 = 44
        · have hb1 : b1 = false := by
            cases b1 with
            | false => rfl
            | true => exact absurd (h44.symm.trans hk2) (show ¬ (44 = 0) by decide)
          subst hb1
          cases T1 with
          | nil => exact absurd (h44.symm.trans hk2) (show ¬ (44 = 0) by decide)
          | cons t T2 =>
            have ht : t.1 = 44 := UInt8.toNat_inj.1 (hk2.symm.trans h44)
            have hb : ((k2 : Int) == 44) = true := by rw [h44]; rfl
            have HQ := Lib.hid ht
            clear ht h44 hk2
            go_wp2_with (first | (go_at_call 77; refine HN.out.mono ?_; rintro e w' ⟨rfl, rfl⟩) | (go_at_call 51; refine HT.out.1.mono ?_; rintro e w5 ⟨x, rfl, hx, hD⟩))
            go_roundg T2.length
            case rel =>
              have hl2 := HC.out.2.2.2.2.1.length_le
              simp only [List.length_cons] at hl2
              have hlen := HS.out.2.2.2.2.2.2.2.2.1
              have hgk := HS.out.1
              have hR5 : RdS r q false T2 w5 := by
                rcases hx with ⟨t', T', -, he, -, -, h⟩ | ⟨h, -⟩
                · cases he; exact h
                · exact absurd (show t.1.toNat = 44 by rw [HQ.out]; rfl) h
              refine Lib.hid ⟨l ++ [xs], (.slice ga gn gc), false, T2, rfl, hR5, HC.out.1.trans (Rf.ofD hD), HC.out.2.1.rf (Rf.ofD hD) hrl, ownsRow_keep HC.out.2.2.1 (fun k hk _ => hD.1 k (by have := HC.out.2.2.2.1 k hk; omega)), HC.out.2.2.2.1,
                (List.suffix_cons _ _).trans (HC.out.2.2.2.2.1.trans HS.out.2.2.2.2.2.2.1), LpRel.comma (plW_nil d) HS.out.2.2.2.2.2.2.2.1 HC.out.2.2.2.2.2.1 HC.out.2.2.2.2.1.length_le rfl rfl HQ.out, ?_, ?_, ?_⟩
              · have e1 : (l ++ [xs]).flatten.length = l.flatten.length + xs.length := by simp
                have := HW4.out.2.2
                have := HC.out.2.2.2.2.2.2
                omega
              · have e1 : (l ++ [xs]).flatten.length = l.flatten.length + xs.length := by simp
                rw [e1, HS.out.2.2.2.2.2.2.2.2.2.1, HC.out.2.2.2.2.2.2, List.length_append, List.length_singleton, Nat.succ_mul]
              · have := HS.out.2.2.2.2.2.2.2.2.2.2
                have e1 : (l ++ [xs]).length = l.length + 1 := by simp
                omega
            case measure =>
              have hl2 := HC.out.2.2.2.2.1.length_le
              simp only [List.length_cons] at hl2
              have hgk := HS.out.1
              omega
        · have hb : ((k2 : Int) == 44) = false := beq_false_of_ne (by omega)
          have HK := Lib.hid (And.intro h44 hk2)
          clear h44 hk2
          go_wp2_with (first | (go_at_call 77; refine HN.out.mono ?_; rintro e w' ⟨rfl, rfl⟩) | (go_at_call 51; refine HT.out.2.mono ?_; rintro e w5 ⟨x, rfl, hx, hD⟩; obtain ⟨c0, c1, c2, c3⟩ := (HC.out.2.1.rf (Rf.ofD hD) hrl).cells; obtain ⟨o0, o1, o2, o3⟩ := (HC.out.2.1.rf (Rf.ofD hD) hrl).out; obtain ⟨z0, z0'⟩ := (HC.out.2.1.rf (Rf.ofD hD) hrl).froz 0; obtain ⟨z1, z1'⟩ := (HC.out.2.1.rf (Rf.ofD hD) hrl).froz 1; obtain ⟨z2, z2'⟩ := (HC.out.2.1.rf (Rf.ofD hD) hrl).froz 2; obtain ⟨z3, z3'⟩ := (HC.out.2.1.rf (Rf.ofD hD) hrl).froz 3; replace hx := Lib.hid (And.intro hx hD); clear hD))
          have hd4 : DFr w.heap.size w5 ((((w5.setCell ⟨w.heap.size, 0, none⟩ (.int .i64 2)).setCell ⟨w.heap.size, 1, none⟩ (.int .i64 d)).setCell ⟨w.heap.size, 2, none⟩ (.slice ga gn gc)).setCell ⟨w.heap.size, 3, none⟩ (.slice none 0 0)) := ((((DFr.refl _ _).set _ _).set _ _).set _ _).set _ _
          obtain ⟨hx, hD⟩ := hx.out
          refine bodyPost_ret_by (results_cell_row rfl _ _ w.heap.size 45 _ (0, 0) _ rfl ((HC.out.2.1.rf (Rf.ofD hD) hrl).fin _ _ _ _) Tryz.underlying45 rfl (by kernel_rfl)) rfl ?_
          have hne44 : nxk b1 T1 ≠ 44 := by rw [← HK.out.2]; exact HK.out.1
          obtain ⟨hl1, hl2⟩ := LpRel.last (plW_nil d) HS.out.2.2.2.2.2.2.2.1 HC.out.2.2.2.2.2.1 hne44
          have hpk : l.length + 1 ≤ 100000 := by
            have h1 := HS.out.2.2.2.2.2.2.2.2.2.2
            omega
          have hpf : (l ++ [xs]).flatten.length = (l.length + 1) * wid d := by
            have e1 : (l ++ [xs]).flatten.length = l.flatten.length + xs.length := by simp
            rw [e1, HS.out.2.2.2.2.2.2.2.2.2.1, HC.out.2.2.2.2.2.2, Nat.succ_mul]
          have hrep : GLc d (fun k => w.heap.size ≤ k) ((((w5.setCell ⟨w.heap.size, 0, none⟩ (.int .i64 2)).setCell ⟨w.heap.size, 1, none⟩ (.int .i64 d)).setCell ⟨w.heap.size, 2, none⟩ (.slice ga gn gc)).setCell ⟨w.heap.size, 3, none⟩ (.slice none 0 0)) [.int .i64 2, .int .i64 d, (.slice ga gn gc), .slice none 0 0] (l ++ [xs]).flatten :=
            ⟨_, rfl, ownsRow_keep (ownsRow_keep HC.out.2.2.1 (fun k hk _ => hD.1 k (by have := HC.out.2.2.2.1 k hk; omega))) (fun k hk _ => hd4.1 k (by have := HC.out.2.2.2.1 k hk; omega)), (fun k hk => by have := HC.out.2.2.2.1 k hk; omega), ⟨l.length + 1, hpk, by rw [hpf]⟩⟩
          have hrff := ((HC.out.1.trans (Rf.ofD hD)).own (Nat.le_refl _) hd4)
          rcases hx with ⟨t, T2, rfl, rfl, h41, -, hR5⟩ | ⟨h41, -, hR5⟩
          · exact ⟨_, _, false, T2, rfl, hrep, hR5.own hd4 hrl hql, hrff, (List.suffix_cons _ _).trans (HC.out.2.2.2.2.1.trans HS.out.2.2.2.2.2.2.1), RdRel.map (hl1 t T2 rfl rfl h41) _⟩
          · exact ⟨_, _, true, T1, rfl, hrep, hR5.own hd4 hrl hql, hrff, HC.out.2.2.2.2.1.trans HS.out.2.2.2.2.2.2.1, RdRel.map (hl2 h41) _⟩
end Go.Proofs.YtblpcpkkjbkakaaGreatDoor
/- The reference's reading of a body with parts: a polygon's, several polygons'. -/
namespace Go.Proofs.YtblpcpkkjbkakaaGreatDoor
open Go Go.RowKit
set_option linter.unusedVariables false
set_option linter.unusedSimpArgs false

theorem info45 : (Tryz.prog.info? 45).map (fun i => (i.zero, i.size, i.bytes)) = some (some (.agg #[.int .i64 0, .int .i64 0, .slice none 0 0, .slice none 0 0]), 4, 64) := by kernel_rfl
theorem fine55 : (Tryz.f55.name == "runtime.NumGoroutine" || Tryz.f55.body.isNone) = false := by kernel_rfl
theorem fine49 : (Tryz.f49.name == "runtime.NumGoroutine" || Tryz.f49.body.isNone) = false := by kernel_rfl
theorem step_call1 {P : Program} {ops : Array Oper} {o : Oper} {a : Act} {w : World} {K : Act → World → Prop} {Q : Exit → Act → World → Prop} {E : Prop} (hg : o.guard = none) (f : FuncId) (fn : Func) (hfn : P.funcs[f]? = some fn) (hb : (fn.name == "runtime.NumGoroutine" || fn.body.isNone) = false) (x : Operand) (ts : Array TypeId)
    (hop : o.op = .call { callee := .value (.func f), args := #[x], argTypes := ts }) (vx : Value) (hx : a.eval x = vx) {Post : Ending → World → Prop} (hc : Calls P f #[vx] w Post)
    (hr : ∀ e w', Post e w' → ∃ v, e = .returned v ∧ K (a.put o.dst v) w') : if Region.wanted o (yielded ops a.tmps) = true then Oper.wp P o a w K Q else E :=
  step_call hg f fn hfn hb #[x] ts hop #[vx] (by simp [hx]) hc hr
theorem cells_lit4 (w : World) (x0 x1 x2 x3 : Value) (t : TypeId) (N : Nat) (hN : w.heap.size = N) : ∀ j u, [x0, x1, x2, x3][j]? = some u → (w.alloc (.cells #[x0, x1, x2, x3] t)).cell? ((⟨N, 0, none⟩ : Addr).add j) = some u := by
  intro j u hj
  rw [← hN, show (⟨w.heap.size, 0, none⟩ : Addr).add j = ⟨w.heap.size, j, none⟩ by unfold Addr.add; split <;> simp_all]
  rw [cell_of_row _ _ j #[x0, x1, x2, x3] t (0, 0) (heap_alloc_new w _)]
  match j, hj with
  | 0, hj => simpa using hj
  | 1, hj => simpa using hj
  | 2, hj => simpa using hj
  | 3, hj => simpa using hj

/-- Where the parts may lie: behind the two new blocks, below the heap's end, not in the row of parts. -/
def Ft (m H : Nat) (v : Value) (k : Nat) : Prop := m + 2 ≤ k ∧ k < H ∧ v.ownBlock ≠ some k
section
variable {α : Type} (R : (Nat → Prop) → World → List Value → α → Prop) (f : List Tok → Option (α × List Tok))
/-- The loop over parts. -/
def LpK (r q kk d m : Nat) (bad : Bool) (T : List Tok) (w : World) (k : Nat) (wr : World) : Prop :=
  ∃ l vK ccs bj Tj, Tj.length = k ∧ RdS r q bj Tj wr ∧ Rf r w wr ∧ GBox kk d m (.slice none 0 0) vK wr ∧ wr.ownsRow 0 45 4 vK l.length ccs.flatten ∧ (∀ g, vK.ownBlock = some g → m + 2 ≤ g) ∧ All2 (R (Ft m wr.heap.size vK) wr) ccs l ∧ Tj <:+ T ∧ LpRel f bad T bj l Tj ∧ l.length + k ≤ T.length
/-- One part more. -/
def MidK (r q kk d m : Nat) (l : List α) (bj : Bool) (Tj : List Tok) (w wx : World) : Prop :=
  ∃ x b1 T1 vK' ccs', RdS r q b1 T1 wx ∧ Rf r w wx ∧ GBox kk d m (.slice none 0 0) vK' wx ∧ wx.ownsRow 0 45 4 vK' (l ++ [x]).length ccs'.flatten ∧ (∀ g, vK'.ownBlock = some g → m + 2 ≤ g) ∧ All2 (R (Ft m wx.heap.size vK') wx) ccs' (l ++ [x]) ∧ T1 <:+ Tj ∧ RdRel (f Tj) bj b1 x T1
end
theorem midK_mk {α : Type} {R : (Nat → Prop) → World → List Value → α → Prop} (hRep : Rep R) {f : List Tok → Option (α × List Tok)} {r q kk d : Nat} {l : List α} {vK : Value} {ccs : List (List Value)} {bj b1 : Bool} {Tj T1 : List Tok} {w wr w3 w4 : World} {x : α} {cs : List Value} {g3 cap : Nat}
    (hrf : Rf r w wr) (hbox : GBox kk d w.heap.size (.slice none 0 0) vK wr) (hvb : ∀ g, vK.ownBlock = some g → w.heap.size + 2 ≤ g) (hownK : wr.ownsRow 0 45 4 vK l.length ccs.flatten) (hA : All2 (R (Ft w.heap.size wr.heap.size vK) wr) ccs l)
    (hrl : r < w.heap.size) (hql : q < w.heap.size) (hR3 : RdS r q b1 T1 w3) (hrf3 : Rf r wr.drew w3) (hsf : T1 <:+ Tj) (hp : RdRel (f Tj) bj b1 x T1) (hx : R (fun k => wr.heap.size ≤ k) w3 cs x)
    (hown : w4.ownsRow 0 45 4 (.slice (some ⟨g3, 0, none⟩) (l.length + 1) cap) (l.length + 1) (ccs.flatten ++ cs)) (hg4 : (w3.alloc (.cells ⟨cs⟩ 45)).grownBy w4 vK.ownBlock) (hat : vK.ownBlock = some g3 ∨ g3 = w3.heap.size + 1) :
    MidK R f r q kk d w.heap.size l bj Tj w (w4.setCell ⟨w.heap.size + 1, 3, none⟩ (.slice (some ⟨g3, 0, none⟩) (l.length + 1) cap)) := by
  have hd : DFr (w.heap.size + 1) w4 (w4.setCell ⟨w.heap.size + 1, 3, none⟩ (.slice (some ⟨g3, 0, none⟩) (l.length + 1) cap)) := (DFr.refl _ _).set _ _
  have hrf3' : Rf r wr w3 := (Rf.ofOld (Below.refl _ _).drew).trans hrf3
  have hms := hbox.lt
  have hsz3 := hrf3'.bl.size
  have hal : (w3.alloc (.cells ⟨cs⟩ 45)).heap.size = w3.heap.size + 1 := by simp
  have hsz4 := hg4.size
  rw [hal] at hsz4
  have hb3 : ∀ k, k < w3.heap.size → vK.ownBlock ≠ some k → w4.heap[k]? = w3.heap[k]? := fun k hk hne => (hg4.block k (by omega) (fun e => hne e.symm)).trans (Below.heap_alloc _ _ _ hk)
  have hvlt : ∀ g, vK.ownBlock = some g → g < wr.heap.size := fun g hg => (hownK.lt g hg).2
  have hg3 : w.heap.size + 2 ≤ g3 := by
    rcases hat with h | h
    · exact hvb _ h
    · omega
  have hgg : ∀ k, vK.ownBlock ≠ some k → k < w3.heap.size → k ≠ g3 := by
    intro k h1 h2
    rcases hat with h | h
    · intro e; rw [e] at h1; exact h1 h
    · omega
  have hs5 : (w4.setCell ⟨w.heap.size + 1, 3, none⟩ (.slice (some ⟨g3, 0, none⟩) (l.length + 1) cap)).heap.size = w4.heap.size := hd.2.2
  have hob : (Value.slice (some ⟨g3, 0, none⟩) (l.length + 1) cap).ownBlock = some g3 := rfl
  have hRal : RdS r q b1 T1 (w3.alloc (.cells ⟨cs⟩ 45)) := hR3.keepO ((Below.refl _ _).alloc (Nat.le_refl _) _)
  refine ⟨x, b1, T1, _, ccs ++ [cs], (hRal.grown hg4 hvb (by omega) (by omega)).own hd (by omega) (by omega), (((hrf.trans hrf3').alloc _).grown hg4 (fun k hk => by have := hvb k hk; omega)).own (by omega) hd,
    ((hbox.rf hrf3' hrl).keep (hb3 _ (by omega) (fun e => by have := hvb _ e; omega)) (hb3 _ (by omega) (fun e => by have := hvb _ e; omega))).set3 _, ?_, fun g hg => ?_, All2.snoc ?_ (All2.imp (fun c y hcy => ?_) hA), hsf, hp⟩
  · rw [List.length_append, List.length_singleton]
    refine ownsRow_keep ?_ fun k hk _ => hd.1 k ?_
    · simpa using hown
    · have : g3 = k := by simpa [Value.ownBlock] using hk
      omega
  · have : g3 = g := by simpa [Value.ownBlock] using hg
    omega
  · refine hRep.mono _ _ _ _ _ (hRep.keep _ w3 _ _ _ (hRep.nar _ _ _ _ hx) fun k hk _ => (hd.1 k (by omega)).trans (hb3 k hk.2 (fun e => by have := hvlt _ e; omega))) fun k hk => ?_
    refine ⟨by omega, by rw [hs5]; omega, ?_⟩
    rw [hob]
    intro e
    exact hgg k (fun e => by have := hvlt _ e; omega) hk.2 (Option.some.inj e).symm
  · refine hRep.mono _ _ _ _ _ (hRep.keep _ wr _ _ _ hcy fun k hk _ => (hd.1 k (by have := hk.1; omega)).trans ((hb3 k (by have := hk.2.1; omega) hk.2.2).trans (hrf3'.kp k hk.2.1 (by have := hk.1; omega)))) fun k hk => ?_
    refine ⟨hk.1, by rw [hs5]; have := hk.2.1; omega, ?_⟩
    rw [hob]
    intro e
    exact hgg k hk.2.2 (by have := hk.2.1; omega) (Option.some.inj e).symm
set_option maxRecDepth 100000 in
set_option maxHeartbeats 4000000 in
theorem rbodyK {α : Type} {R : (Nat → Prop) → World → List Value → α → Prop} (hRep : Rep R) {f : List Tok → Option (α × List Tok)} (h0 : f [] = none) (kk kid : Nat) (hkk : (kk = 3 ∧ kid = 2) ∨ (kk = 6 ∧ kid = 3))
    (r q d : Nat) (bad : Bool) (T : List Tok) (B : Nat) (g gl gp : Nat × Nat) (w : World) (h : RdS r q bad T w) (hd : d < 4) (hok : TksOk T) (hG : GlN B g gl gp w) (hr : B ≤ r) (hT : T.length ≤ 99999)
    (hel : ∀ (bj : Bool) (Tj : List Tok) (W : World), RdS r q bj Tj W → TksOk Tj → GlN B g gl gp W → Tj.length ≤ 99999 → Calls Tryz.prog 55 #[.pointer (some ⟨r, 0, none⟩), .int .i64 kid, .int .i64 d] W (BdPost R (f Tj) r q bj Tj W)) :
    Calls Tryz.prog 55 #[.pointer (some ⟨r, 0, none⟩), .int .i64 kk, .int .i64 d] w (BdPost (GKc R kk d) (bodyP f T) r q bad T w) := by
  have HG := Lib.hid (And.intro h (And.intro hok hG)); clear h hok hG
  obtain ⟨i0, hi, hz0, hz1, hz2⟩ := info_parts info45
  have k0 : ((kk : Int) == 0) = false := beq_false_of_ne (by omega)
  have k4 : ((kk : Int) == 4) = false := beq_false_of_ne (by omega)
  have k1 : ((kk : Int) == 1) = false := beq_false_of_ne (by omega)
  have hleaf := fun W => leaf_any kk W (by omega)
  have hl2 : (kk == 2) = false := beq_false_of_ne (by omega)
  rw [hl2] at hleaf
  have hkid := fun W => kid_any kk W (by omega)
  have hkd : kk / 2 + 1 - kk / 6 = kid := by rcases hkk with ⟨rfl, rfl⟩ | ⟨rfl, rfl⟩ <;> rfl
  rw [hkd] at hkid
  have HLF := Lib.hid hleaf
  have HKD := Lib.hid hkid
  have HEL := Lib.hid hel
  clear hleaf hkid hel hl2 hkd hkk
  have hbox := gbox_new kk d w
  have hb0 : Below w.heap.size w ((w.alloc (.cells #[.int .i64 0, .int .i64 0, .slice none 0 0, .slice none 0 0] 45)).alloc (.cells #[.int .i64 (kk : Int), .int .i64 d, .slice none 0 0, .slice none 0 0] 45)) := ((Below.refl _ _).alloc (Nat.le_refl _) _).alloc (by simp) _
  have hwd := rword r q emptyW bad T _ (HG.out.1.keepO hb0)
  have HW := Lib.hid hwd
  have HB := Lib.hid (And.intro hbox hb0)
  clear hbox hb0 hwd
  go_enter Tryz.func55, Tryz.ntmps55
  go_upto_if 12 with (go_at_call 53; refine HW.out.mono ?_; rintro e w1 ⟨b, rfl, hx, hD⟩)
  have hrl : r < w.heap.size := HG.out.1.lt
  have hql : q < w.heap.size := HG.out.1.ql
  have hbox1 := HB.out.1.rf (Rf.ofD hD) hrl
  have hrf1 : Rf r w w1 := (Rf.ofOld HB.out.2).trans (Rf.ofD hD)
  have hb1 : b = true ∨ b = false := by cases b <;> simp
  rcases hb1 with rfl | rfl
  · obtain ⟨c0, c1, c2, c3⟩ := hbox1.cells
    obtain ⟨o0, o1, o2, o3⟩ := hbox1.out
    obtain ⟨z0, z0'⟩ := hbox1.froz 0
    obtain ⟨z1, z1'⟩ := hbox1.froz 1
    obtain ⟨z2, z2'⟩ := hbox1.froz 2
    obtain ⟨z3, z3'⟩ := hbox1.froz 3
    have HX := Lib.hid (And.intro hx (And.intro hrf1 (And.intro hbox1 (And.intro hrl hql))))
    clear hx hrf1 hbox1 hrl hql hD HW HB
    go_wp2_with fail
    have hd4 : DFr w.heap.size w1 ((((w1.setCell ⟨w.heap.size, 0, none⟩ (.int .i64 kk)).setCell ⟨w.heap.size, 1, none⟩ (.int .i64 d)).setCell ⟨w.heap.size, 2, none⟩ (.slice none 0 0)).setCell ⟨w.heap.size, 3, none⟩ (.slice none 0 0)) := ((((DFr.refl _ _).set _ _).set _ _).set _ _).set _ _
    obtain ⟨hx, x1, x2, x3, x4⟩ := HX.out
    refine bodyPost_ret_by (results_cell_row rfl _ _ w.heap.size 45 _ (0, 0) _ rfl (x2.fin _ _ _ _) Tryz.underlying45 rfl (by kernel_rfl)) rfl ?_
    rcases hx with ⟨-, t, T', rfl, rfl, h97, he, hR⟩ | ⟨h, -⟩
    · refine ⟨_, [], false, T', rfl, ⟨_, [], rfl, World.ownsRow_nil _ _ _ _, (fun k hk => by cases hk), trivial, Nat.zero_le _⟩, hR.own hd4 x3 x4, x1.own (Nat.le_refl _) hd4, List.suffix_cons _ _, .inl ⟨rfl, rfl, ?_⟩⟩
      rw [bodyP_cons, if_pos ⟨h97, he⟩]
    · cases h
  · have hbad : ¬ (bad = false ∧ ∃ t T', T = t :: T' ∧ t.1 = 97 ∧ t.2 = emptyW) ∧ RdS r q bad T w1 := by
      rcases hx with ⟨h, -⟩ | ⟨-, h⟩
      · cases h
      · exact h
    obtain ⟨hne, hR1⟩ := hbad
    have htk := rtake r q 40 bad T w1 hR1 (by decide) (by decide)
    have HX := Lib.hid (And.intro hne (And.intro hrf1 (And.intro hbox1 (And.intro hrl (And.intro hql htk)))))
    clear hx hrf1 hbox1 hrl hql hD HW HB hne hR1 htk
    go_upto_block 0 with (go_at_call 51; refine HX.out.2.2.2.2.2.mono ?_; rintro e w2 ⟨x, rfl, hx, hD⟩)
    obtain ⟨bj, Tj, hR, hsf, hLp⟩ := LpRel.start (f := f) HX.out.1 hx
    have hL2 : LpK R f r q kk d w.heap.size bad T w Tj.length w2 := ⟨[], _, [], bj, Tj, rfl, hR, HX.out.2.1.trans (Rf.ofD hD), HX.out.2.2.1.rf (Rf.ofD hD) HX.out.2.2.2.1, World.ownsRow_nil _ _ _ _, (fun g hg => by cases hg), trivial, hsf, hLp, by have := hsf.length_le; simp; omega⟩
    have HL := Lib.hid (And.intro hL2 (And.intro HX.out.2.2.2.1 HX.out.2.2.2.2.1))
    clear hR hsf hLp hL2 hx hD HX
    generalize Tj.length = n0 at HL
    go_wp2_with fail
    go_loopg [] n0 (fun k wr => RowKit.Hid (LpK R f r q kk d w.heap.size bad T w k wr))
    case atStart => exact Lib.hid HL.out.1
    case round =>
      obtain ⟨l, vN, ccs, bj, Tj, hk, hR, hrf, hbox, hown, hvb, hA, hsf, hLp, hlen⟩ := hrel.out
      obtain ⟨hrl, hql⟩ := HL.out.2
      have hG := HG.out.2.2.rf hrf hr
      have hokj := HG.out.2.1.suffix hsf
      have hpl := HEL.out bj Tj wr.drew hR.drew hokj (hG.keepO (Below.refl _ _).drew) (by have := hsf.length_le; omega)
      have HPL := Lib.hid hpl
      have HS := Lib.hid (And.intro hk (And.intro hR (And.intro hrf (And.intro hbox (And.intro hown (And.intro hvb (And.intro hA (And.intro hsf (And.intro hLp hlen)))))))))
      have c3 := hbox.cells.2.2.2
      have z3 := (hbox.froz 3).1
      have hms : w.heap.size + 1 < wr.heap.size := hbox.lt
      have hl1 : l.length ≤ 100000 := by omega
      clear hk hR hrf hbox hown hvb hA hsf hLp hlen hG hokj hpl hrel
      go_upto_block 2 with fail
      go_cut [] (fun wx => RowKit.Hid (MidK R f r q kk d w.heap.size l bj Tj w wx))
      case first =>
        go_upto_region 5 with (go_at_call 47; refine (HLF.out _).mono ?_; rintro e w' ⟨rfl, rfl⟩)
        go_region_law ((first
          | (refine step_call1 (by rfl) 49 Tryz.f49 Tryz.func49 fine49 _ _ (by rfl) _ (by rfl) (HKD.out _) ?_; rintro e w9 ⟨rfl, rfl⟩; refine ⟨_, rfl, ?_⟩)
          | (refine step_call3 (by rfl) 55 Tryz.f55 Tryz.func55 fine55 _ _ _ _ (by rfl) _ _ _ (by rfl) (by rfl) (by rfl) HPL.out ?_; rintro e w3 ⟨cs, x, b1, T1, rfl, hxR, hR3, hrf3, hsf3, hp3⟩; obtain ⟨y0, y1, y2, y3, y4, y5, y6, y7, rfl⟩ := hRep.form _ _ _ _ hxR; have hown3 := ownsRow_keep (w' := w3) HS.out.2.2.2.2.1 (fun k hk hl => hrf3.kp k hl (by have := HS.out.2.2.2.2.2.1 k hk; omega)); obtain ⟨c33, z33⟩ := cf_of (hrf3.kp (w.heap.size + 1) hms (by omega)) ⟨c3, z3⟩; have l33 : w.heap.size + 1 < w3.heap.size := Nat.lt_of_lt_of_le hms hrf3.bl.size; have c35 : ∀ o, (w3.alloc o).cell? ⟨w.heap.size + 1, 3, none⟩ = some vN := fun o => (cf_of (Below.heap_alloc w3 o _ l33) ⟨c33, z33⟩).1; refine ⟨_, rfl, ?_⟩)
          | (refine step_append_lies _ (by rfl) _ _ _ (by rfl) 0 45 i0 _ 4 64 Tryz.underlying43 hi hz0 hz1 hz2 rfl (by omega) vN l.length ccs.flatten (by rfl) (hown3.alloc _) ⟨w3.heap.size, 0, none⟩ 1 1 [_, _, _, _] (by rfl) (by rfl) (cells_lit4 _ _ _ _ _ _ _ rfl) (by intro u hu; simp at hu; rcases hu with rfl | rfl | rfl | rfl <;> rfl) (by omega) (by unfold maxLen; omega) (by omega) (Nat.zero_le _) (w3.heap.size + 1) (by simp) ?_; intro g3 cap w4 hown4 hg4 hat hlt; obtain ⟨c34, z34⟩ := cf_of ((hg4.block (w.heap.size + 1) (by simp; have := Nat.lt_of_lt_of_le hms hrf3.bl.size; omega) (fun e => absurd (HS.out.2.2.2.2.2.1 _ e.symm) (by omega))).trans (Below.heap_alloc _ _ _ (Nat.lt_of_lt_of_le hms hrf3.bl.size))) ⟨c33, z33⟩)))
        all_goals go_wp2_with fail
        all_goals go_meet
        all_goals
          exact Lib.hid (midK_mk hRep HS.out.2.2.1 HS.out.2.2.2.1 HS.out.2.2.2.2.2.1 HS.out.2.2.2.2.1 HS.out.2.2.2.2.2.2.1 hrl hql hR3 hrf3 hsf3 hp3 hxR hown4 hg4 hat)
      case rest =>
        obtain ⟨x1, b1, T1, vK', ccs', hR1, hrf1, hbox1, hown1, hvb1, hA1, hsf1, he1⟩ := hcut.out
        obtain ⟨ga, gn, gc, rfl⟩ := ownsRow_slice hown1
        have hn := rnext r q b1 T1 wc hR1
        have ht44 := rtake r q 44 b1 T1 wc hR1 (by decide) (by decide)
        have ht41 := rtake r q 41 b1 T1 wc hR1 (by decide) (by decide)
        obtain ⟨k2, hk2⟩ : ∃ k2, k2 = nxk b1 T1 := ⟨_, rfl⟩
        rw [← hk2] at hn
        have HN := Lib.hid hn
        have HT := Lib.hid (And.intro ht44 ht41)
        have HC := Lib.hid (And.intro hrf1 (And.intro hbox1 (And.intro hown1 (And.intro hvb1 (And.intro hA1 (And.intro hsf1 he1))))))
        clear hn ht44 ht41 hR1 hrf1 hbox1 hown1 hvb1 hA1 hsf1 he1 hcut HPL HLF HKD HEL c3 z3
        by_cases h44 : k2 = 44
        · have hb1 : b1 = false := by
            cases b1 with
            | false => rfl
            | true => exact absurd (h44.symm.trans hk2) (show ¬ (44 = 0) by decide)
          subst hb1
          cases T1 with
          | nil => exact absurd (h44.symm.trans hk2) (show ¬ (44 = 0) by decide)
          | cons t T2 =>
            have ht : t.1 = 44 := UInt8.toNat_inj.1 (hk2.symm.trans h44)
            have hb : ((k2 : Int) == 44) = true := by rw [h44]; rfl
            have HQ := Lib.hid ht
            clear ht h44 hk2
            go_wp2_with (first | (go_at_call 77; refine HN.out.mono ?_; rintro e w' ⟨rfl, rfl⟩) | (go_at_call 51; refine HT.out.1.mono ?_; rintro e w5 ⟨x, rfl, hx, hD⟩))
            go_roundg T2.length
            case rel =>
              have hl2 := HC.out.2.2.2.2.2.1.length_le
              simp only [List.length_cons] at hl2
              have hlen := HS.out.2.2.2.2.2.2.2.2.2
              have hgk := HS.out.1
              have hR5 : RdS r q false T2 w5 := by
                rcases hx with ⟨t', T', -, he, -, -, h⟩ | ⟨h, -⟩
                · cases he; exact h
                · exact absurd (show t.1.toNat = 44 by rw [HQ.out]; rfl) h
              refine Lib.hid ⟨l ++ [x1], .slice ga gn gc, ccs', false, T2, rfl, hR5, HC.out.1.trans (Rf.ofD hD), HC.out.2.1.rf (Rf.ofD hD) hrl, ownsRow_keep HC.out.2.2.1 (fun k hk _ => hD.1 k (by have := HC.out.2.2.2.1 k hk; omega)), HC.out.2.2.2.1,
                All2.imp (fun c y hcy => ?_) HC.out.2.2.2.2.1, (List.suffix_cons _ _).trans (HC.out.2.2.2.2.2.1.trans HS.out.2.2.2.2.2.2.2.1), LpRel.comma h0 HS.out.2.2.2.2.2.2.2.2.1 HC.out.2.2.2.2.2.2 HC.out.2.2.2.2.2.1.length_le rfl rfl HQ.out, ?_⟩
              · have h1 := hRep.keep _ wc w5 _ _ hcy fun k hk _ => hD.1 k (by have := hk.1; omega)
                rw [hD.2.2]
                exact h1
              · have e1 : (l ++ [x1]).length = l.length + 1 := by simp
                omega
            case measure =>
              have hl2 := HC.out.2.2.2.2.2.1.length_le
              simp only [List.length_cons] at hl2
              have hgk := HS.out.1
              omega
        · have hb : ((k2 : Int) == 44) = false := beq_false_of_ne (by omega)
          have HK := Lib.hid (And.intro h44 hk2)
          clear h44 hk2
          go_wp2_with (first | (go_at_call 77; refine HN.out.mono ?_; rintro e w' ⟨rfl, rfl⟩) | (go_at_call 51; refine HT.out.2.mono ?_; rintro e w5 ⟨x, rfl, hx, hD⟩; obtain ⟨c0, c1, c2, c3⟩ := (HC.out.2.1.rf (Rf.ofD hD) hrl).cells; obtain ⟨o0, o1, o2, o3⟩ := (HC.out.2.1.rf (Rf.ofD hD) hrl).out; obtain ⟨z0, z0'⟩ := (HC.out.2.1.rf (Rf.ofD hD) hrl).froz 0; obtain ⟨z1, z1'⟩ := (HC.out.2.1.rf (Rf.ofD hD) hrl).froz 1; obtain ⟨z2, z2'⟩ := (HC.out.2.1.rf (Rf.ofD hD) hrl).froz 2; obtain ⟨z3, z3'⟩ := (HC.out.2.1.rf (Rf.ofD hD) hrl).froz 3; replace hx := Lib.hid (And.intro hx hD); clear hD))
          have hd4 : DFr w.heap.size w5 ((((w5.setCell ⟨w.heap.size, 0, none⟩ (.int .i64 kk)).setCell ⟨w.heap.size, 1, none⟩ (.int .i64 d)).setCell ⟨w.heap.size, 2, none⟩ (.slice none 0 0)).setCell ⟨w.heap.size, 3, none⟩ (.slice ga gn gc)) := ((((DFr.refl _ _).set _ _).set _ _).set _ _).set _ _
          obtain ⟨hx, hD⟩ := hx.out
          refine bodyPost_ret_by (results_cell_row rfl _ _ w.heap.size 45 _ (0, 0) _ rfl ((HC.out.2.1.rf (Rf.ofD hD) hrl).fin _ _ _ _) Tryz.underlying45 rfl (by kernel_rfl)) rfl ?_
          have hne44 : nxk b1 T1 ≠ 44 := by rw [← HK.out.2]; exact HK.out.1
          obtain ⟨hl1, hl2⟩ := LpRel.last h0 HS.out.2.2.2.2.2.2.2.2.1 HC.out.2.2.2.2.2.2 hne44
          have hrep : GKc R kk d (fun k => w.heap.size ≤ k) ((((w5.setCell ⟨w.heap.size, 0, none⟩ (.int .i64 kk)).setCell ⟨w.heap.size, 1, none⟩ (.int .i64 d)).setCell ⟨w.heap.size, 2, none⟩ (.slice none 0 0)).setCell ⟨w.heap.size, 3, none⟩ (.slice ga gn gc)) [.int .i64 kk, .int .i64 d, .slice none 0 0, .slice ga gn gc] (l ++ [x1]) :=
            ⟨_, ccs', rfl, ownsRow_keep (ownsRow_keep HC.out.2.2.1 (fun k hk _ => hD.1 k (by have := HC.out.2.2.2.1 k hk; omega))) (fun k hk _ => hd4.1 k (by have := HC.out.2.2.2.1 k hk; omega)), (fun k hk => by have := HC.out.2.2.2.1 k hk; omega),
              All2.imp (fun c y hcy => hRep.mono _ _ _ _ _ (hRep.keep _ w5 _ _ _ (hRep.keep _ wc _ _ _ hcy fun k hk _ => hD.1 k (by have := hk.1; omega)) fun k hk _ => hd4.1 k (by have := hk.1; omega)) fun k hk => by have := hk.1; omega) HC.out.2.2.2.2.1, by have := HS.out.2.2.2.2.2.2.2.2.2; simp only [List.length_append, List.length_singleton]; omega⟩
          have hrff := ((HC.out.1.trans (Rf.ofD hD)).own (Nat.le_refl _) hd4)
          rcases hx with ⟨t, T2, rfl, rfl, h41, -, hR5⟩ | ⟨h41, -, hR5⟩
          · exact ⟨_, _, false, T2, rfl, hrep, hR5.own hd4 hrl hql, hrff, (List.suffix_cons _ _).trans (HC.out.2.2.2.2.2.1.trans HS.out.2.2.2.2.2.2.2.1), hl1 t T2 rfl rfl h41⟩
          · exact ⟨_, _, true, T1, rfl, hrep, hR5.own hd4 hrl hql, hrff, HC.out.2.2.2.2.2.1.trans HS.out.2.2.2.2.2.2.2.1, hl2 h41⟩
/-- A polygon's four cells; several polygons'. -/
abbrev GPc (d : Nat) : (Nat → Prop) → World → List Value → List (List Nat) → Prop := GKc (GLc d) 3 d
abbrev GMc (d : Nat) : (Nat → Prop) → World → List Value → List (List (List Nat)) → Prop := GKc (GPc d) 6 d
theorem rbody3 (r q d : Nat) (bad : Bool) (T : List Tok) (B : Nat) (g gl gp : Nat × Nat) (w : World) (h : RdS r q bad T w) (hd : d < 4) (hok : TksOk T) (hG : GlN B g gl gp w) (hr : B ≤ r) (hT : T.length ≤ 99999) :
    Calls Tryz.prog 55 #[.pointer (some ⟨r, 0, none⟩), .int .i64 3, .int .i64 d] w (BdPost (GPc d) (polyP d T) r q bad T w) :=
  rbodyK (GLc.rep d) (lineP_nil d) 3 2 (.inl ⟨rfl, rfl⟩) r q d bad T B g gl gp w h hd hok hG hr hT fun bj Tj W h1 h2 h3 h4 => rbody2 r q d bj Tj B g gl gp W h1 hd h2 h3 hr h4
theorem rbody6 (r q d : Nat) (bad : Bool) (T : List Tok) (B : Nat) (g gl gp : Nat × Nat) (w : World) (h : RdS r q bad T w) (hd : d < 4) (hok : TksOk T) (hG : GlN B g gl gp w) (hr : B ≤ r) (hT : T.length ≤ 99999) :
    Calls Tryz.prog 55 #[.pointer (some ⟨r, 0, none⟩), .int .i64 6, .int .i64 d] w (BdPost (GMc d) (mpolyP d T) r q bad T w) :=
  rbodyK (GKc.rep (GLc.rep d) 3 d) (polyP_nil d) 6 3 (.inr ⟨rfl, rfl⟩) r q d bad T B g gl gp w h hd hok hG hr hT fun bj Tj W h1 h2 h3 h4 => rbody3 r q d bj Tj B g gl gp W h1 hd h2 h3 hr h4
end Go.Proofs.YtblpcpkkjbkakaaGreatDoor
/- The reference's names of kinds and of types of coordinates. -/
namespace Go.Proofs.YtblpcpkkjbkakaaGreatDoor
open Go Go.RowKit
set_option linter.unusedVariables false
set_option linter.unusedSimpArgs false

def mpW : List UInt8 := [77, 85, 76, 84, 73, 80, 79, 76, 89, 71, 79, 78]
def kindW : Nat → List UInt8
  | 1 => [80, 79, 73, 78, 84]
  | 2 => [76, 73, 78, 69, 83, 84, 82, 73, 78, 71]
  | 3 => [80, 79, 76, 89, 71, 79, 78]
  | 4 => [77, 85, 76, 84, 73, 80, 79, 73, 78, 84]
  | 5 => [77, 85, 76, 84, 73, 76, 73, 78, 69, 83, 84, 82, 73, 78, 71]
  | 6 => mpW
  | _ => [71, 69, 79, 77, 69, 84, 82, 89, 67, 79, 76, 76, 69, 67, 84, 73, 79, 78]
def dimW : Nat → List UInt8
  | 1 => [90]
  | 2 => [77]
  | 3 => [90, 77]
  | _ => []
set_option maxRecDepth 100000 in
theorem kindName_any (k : Nat) (w : World) (hk : k < 7) : Calls Tryz.prog 52 #[.int .i64 k] w fun e w' => e = .returned (.string ⟨(kindW k).toArray⟩) ∧ w = w' := by
  obtain rfl | rfl | rfl | rfl | rfl | rfl | rfl : k = 0 ∨ k = 1 ∨ k = 2 ∨ k = 3 ∨ k = 4 ∨ k = 5 ∨ k = 6 := by omega
  all_goals
    go_enter Tryz.func52, Tryz.ntmps52
    go_wp2_with fail
    go_ret
    exact ⟨rfl, rfl⟩
set_option maxRecDepth 100000 in
theorem dimName_any (k : Nat) (w : World) (hk : k = 1 ∨ k = 2 ∨ k = 3) : Calls Tryz.prog 54 #[.int .i64 k] w fun e w' => e = .returned (.string ⟨(dimW k).toArray⟩) ∧ w = w' := by
  obtain rfl | rfl | rfl := hk
  all_goals
    go_enter Tryz.func54, Tryz.ntmps54
    go_wp2_with fail
    go_ret
    exact ⟨rfl, rfl⟩
set_option maxRecDepth 100000 in
set_option maxHeartbeats 1000000 in
/-- A word in capitals stays as it is. -/
theorem upper_caps (s : ByteArray) (w : World) (hs : s.size ≤ 100000) (hcap : ∀ j, j < s.size → (s.data.toList.getD j 0).toNat < 97) :
    Calls Tryz.prog 24 #[.string s] w fun e w' => e = .returned (.string s) ∧ Below w.heap.size w w' := by
  have hcv := Lib.run_convert_string_bytes (P := Tryz.prog) w 9 85 5 s Tryz.underlying9 Tryz.underlying85 Tryz.underlying5
  have hst := ownBytes_start w s
  have hc0 : ∀ j, j < s.size → (Lib.bytesWorld w 5 s).cell? ⟨w.heap.size, j, none⟩ = some (.int .u8 (s.data.toList.getD j 0).toNat) := fun j hj => Lib.bytesWorld_cell w 5 s j hj
  generalize grownCap w s.size 0 5 = cap at hcv
  generalize Lib.bytesWorld w 5 s = w1 at hcv hst hc0
  generalize hN : w.heap.size = N at hcv hst hc0
  have HN := Lib.hid hN
  have HST := Lib.hid (And.intro hst (And.intro hc0 hcap)); clear hst hN hc0 hcap
  go_enter Tryz.func24, Tryz.ntmps24
  go_wp2
  go_loopw [10] (fun i wr => ∃ k : Nat, k ≤ s.size ∧ i = .int .i64 k ∧ wr = w1) (fun i _ => s.size - (intOf i).toNat)
  case atStart => exact ⟨0, Nat.zero_le _, rfl, rfl⟩
  case round =>
    obtain ⟨k, hk, rfl, rfl⟩ := hrel
    by_cases hlt : k < s.size
    · have hc := HST.out.2.1 k hlt
      have hcc := HST.out.2.2 k hlt
      generalize (s.data.toList.getD k 0).toNat = c at hc hcc
      have h97 : (c : Int) < 97 := by omega
      go_wp2_with fail
      go_roundw
      case rel => exact ⟨k + 1, by omega, by go_num, by first | rfl | trivial⟩
      case measure => simp [intOf]; omega
    · have hb := run_convert_bytes_back (P := Tryz.prog) wr 85 9 5 ⟨N, 0, none⟩ cap s.data.toList Tryz.underlying85 Tryz.underlying5 Tryz.underlying9 (fun j hj => by
        have := HST.out.2.1 j (by simpa using hj)
        rw [show (⟨N, 0, none⟩ : Addr).add j = ⟨N, j, none⟩ by unfold Addr.add; split <;> simp_all]
        have e : s.data.toList.getD j 0 = s.data.toList[j] := by rw [List.getD_eq_getElem?_getD, List.getElem?_eq_getElem hj]; rfl
        rw [this, e])
      have hln : s.data.toList.length = s.size := by simp
      rw [hln] at hb
      go_wp2_with fail
      go_ret
      obtain ⟨l, -, -, -, -, hbel⟩ := HST.out.1
      refine ⟨?_, ?_⟩
      · first | rfl | simp
      · first | exact hbel | (rw [HN.out]; exact hbel)
end Go.Proofs.YtblpcpkkjbkakaaGreatDoor
/- The reference's reading of several polygons' text behind its tokens. -/
namespace Go.Proofs.YtblpcpkkjbkakaaGreatDoor
open Go Go.RowKit
set_option linter.unusedVariables false
set_option linter.unusedSimpArgs false

def tagT : Nat → List Tok
  | 1 => [(97, [90])]
  | 2 => [(97, [77])]
  | 3 => [(97, [90, 77])]
  | _ => []
/-- A result's cells, still at nought. -/
def GRes (m : Nat) (wr : World) : Prop := wr.heap[m]? = some (.cells #[.int .i64 0, .int .i64 0, .slice none 0 0, .slice none 0 0] 45 (0, 0))
theorem GRes.lt {m : Nat} {w : World} (h : GRes m w) : m < w.heap.size := (Array.getElem?_eq_some_iff.1 h).1
theorem GRes.rf {m r : Nat} {w w' : World} (h : GRes m w) (hf : Rf r w w') (hr : r ≠ m) : GRes m w' := (hf.kp _ h.lt (Ne.symm hr)).trans h
theorem GRes.out {m : Nat} {w : World} (h : GRes m w) : w.cell? ⟨m, 0, none⟩ = some (.int .i64 0) ∧ w.cell? ⟨m, 1, none⟩ = some (.int .i64 0) ∧ w.cell? ⟨m, 2, none⟩ = some (.slice none 0 0) ∧ w.cell? ⟨m, 3, none⟩ = some (.slice none 0 0) := by
  refine ⟨?_, ?_, ?_, ?_⟩ <;> (rw [cell_of_row w m _ _ _ _ h]; rfl)
theorem GRes.froz {m : Nat} {w : World} (h : GRes m w) (i : Nat) : w.frozen? ⟨m, i, none⟩ = false := by
  have h' : w.heap[m]? = _ := h
  simp [World.frozen?, h']
theorem GRes.fin {m : Nat} {w : World} (h : GRes m w) (a b c e : Value) : ((((w.setCell ⟨m, 0, none⟩ a).setCell ⟨m, 1, none⟩ b).setCell ⟨m, 2, none⟩ c).setCell ⟨m, 3, none⟩ e).heap[m]? = some (.cells #[a, b, c, e] 45 (0, 0)) := by
  have h' : w.heap[m]? = _ := h
  simp [World.setCell, Array.getElem?_modify, h']
theorem dimW_inj {j d : Nat} (hj : j = 1 ∨ j = 2 ∨ j = 3) (hd : d = 1 ∨ d = 2 ∨ d = 3) (h : dimW d = dimW j) : j = d := by
  rcases hj with rfl | rfl | rfl <;> rcases hd with rfl | rfl | rfl <;> first | rfl | exact absurd h (by decide)
theorem tagT_pos {d : Nat} (hd : d = 1 ∨ d = 2 ∨ d = 3) : tagT d = [(97, dimW d)] := by
  rcases hd with rfl | rfl | rfl <;> rfl
/-- The tags' loop. -/
def TagSt (r q d : Nat) (T' : List Tok) (j : Nat) (dm : Nat) (w2 wx : World) : Prop :=
  (((j ≤ d ∨ d = 0) ∧ dm = 0 ∧ RdS r q false (tagT d ++ T') wx) ∨ (d < j ∧ 0 < d ∧ dm = d ∧ RdS r q false T' wx)) ∧ DFr r w2 wx
theorem TagSt.next {r q d : Nat} {T' : List Tok} {j : Nat} {w2 wx w3 : World} {b : Bool} (hd : d < 4) (hj : j = 1 ∨ j = 2 ∨ j = 3) (hne : d = 0 → ∀ t T2, T' = t :: T2 → t.1 = 97 → t.2 ≠ [90] ∧ t.2 ≠ [77] ∧ t.2 ≠ [90, 77])
    (hs : (j ≤ d ∨ d = 0)) (hx : (b = true ∧ ∃ t T2, false = false ∧ tagT d ++ T' = t :: T2 ∧ t.1 = 97 ∧ t.2 = dimW j ∧ RdS r q false T2 w3) ∨ (b = false ∧ ¬ (false = false ∧ ∃ t T2, tagT d ++ T' = t :: T2 ∧ t.1 = 97 ∧ t.2 = dimW j) ∧ RdS r q false (tagT d ++ T') w3)) (hD0 : DFr r w2 wx) (hD : DFr r wx w3) :
    TagSt r q d T' (j + 1) (if b then j else 0) w2 w3 := by
  refine ⟨?_, hD0.trans hD⟩
  rcases hx with ⟨rfl, t, T2, -, he, h97, ht, hR⟩ | ⟨rfl, hno, hR⟩
  · right
    by_cases h0 : d = 0
    · exfalso
      subst h0
      obtain ⟨n1, n2, n3⟩ := hne rfl t T2 he h97
      rcases hj with rfl | rfl | rfl
      · exact n1 ht
      · exact n2 ht
      · exact n3 ht
    · have hd' : d = 1 ∨ d = 2 ∨ d = 3 := by omega
      rw [tagT_pos hd'] at he
      simp only [List.singleton_append, List.cons.injEq] at he
      obtain ⟨rfl, rfl⟩ := he
      have := dimW_inj hj hd' ht
      exact ⟨by omega, by omega, by simp [this], hR⟩
  · left
    refine ⟨?_, rfl, hR⟩
    rcases hs with hs | hs
    · left
      by_cases e : j = d
      · exfalso
        subst e
        exact hno ⟨rfl, (97, dimW j), T', by rw [tagT_pos hj]; rfl, rfl, rfl⟩
      · omega
    · exact .inr hs

theorem tk_head {r q : Nat} {X : List Tok} {x : ByteArray} {w1 : World} (hx : (∃ t T2, false = false ∧ ((97, mpW) :: X : List Tok) = t :: T2 ∧ t.1.toNat = 97 ∧ x = ⟨t.2.toArray⟩ ∧ RdS r q false T2 w1) ∨ (nxk false ((97, mpW) :: X) ≠ 97 ∧ x = ⟨#[]⟩ ∧ RdS r q true ((97, mpW) :: X) w1)) :
    x = ⟨mpW.toArray⟩ ∧ RdS r q false X w1 := by
  rcases hx with ⟨t, T2, -, he, -, hx, hR⟩ | ⟨h, -⟩
  · cases he; exact ⟨hx, hR⟩
  · exact absurd rfl h
set_option maxRecDepth 100000 in
set_option maxHeartbeats 4000000 in
theorem rtagged (r q d : Nat) (T' : List Tok) (B : Nat) (g gl gp : Nat × Nat) (w : World) (h : RdS r q false ((97, mpW) :: (tagT d ++ T')) w) (hd : d < 4) (hne : d = 0 → ∀ t T2, T' = t :: T2 → t.1 = 97 → t.2 ≠ [90] ∧ t.2 ≠ [77] ∧ t.2 ≠ [90, 77])
    (hok : TksOk T') (hG : GlN B g gl gp w) (hr : B ≤ r) (hT : T'.length ≤ 99999) : Calls Tryz.prog 30 #[.pointer (some ⟨r, 0, none⟩)] w (BdPost (GMc d) (mpolyP d T') r q false T' w) := by
  have hal : Below w.heap.size w (w.alloc (.cells #[.int .i64 0, .int .i64 0, .slice none 0 0, .slice none 0 0] 45)) := (Below.refl _ _).alloc (Nat.le_refl _) _
  have htk := rtake r q 97 false _ _ (h.keepO hal) (by decide) (by decide)
  have hres : GRes w.heap.size (w.alloc (.cells #[.int .i64 0, .int .i64 0, .slice none 0 0, .slice none 0 0] 45)) := heap_alloc_new w _
  have HG := Lib.hid (And.intro h (And.intro hok (And.intro hG (And.intro hres (And.intro hal hne)))))
  have HT := Lib.hid htk
  have HU := Lib.hid (fun (W : World) => upper_caps ⟨mpW.toArray⟩ W (by decide) (by decide))
  clear h hok hG hres hal hne htk
  go_enter Tryz.func30, Tryz.ntmps30
  go_upto_region 2 with (first | (go_at_call 51; refine HT.out.mono ?_; rintro e w1 ⟨x, rfl, hx, hD⟩; obtain ⟨hxx, hR1⟩ := tk_head hx; subst hxx; clear hx) | (go_at_call 24; refine (HU.out _).mono ?_; rintro e w2 ⟨rfl, hb2⟩))
  have hR2 : RdS r q false (tagT d ++ T') w2 := hR1.keepO hb2
  have hrf2 : Rf r w w2 := ((Rf.ofOld HG.out.2.2.2.2.1).trans (Rf.ofD hD)).trans (Rf.ofOld hb2)
  have hrl : r < w.heap.size := HG.out.1.lt
  have hql : q < w.heap.size := HG.out.1.ql
  have hg2 : GRes w.heap.size w2 := (HG.out.2.2.2.1.rf (Rf.ofD hD) (by omega)).rf (Rf.ofOld (r := r) hb2) (by omega)
  have H2 := Lib.hid (And.intro hR2 (And.intro hrf2 (And.intro hg2 (And.intro hrl hql))))
  have HKN := Lib.hid (fun (k : Nat) (W : World) (hk : k < 7) => kindName_any k W hk)
  clear hR1 hR2 hD hb2 hrf2 hg2 HT HU hrl hql
  go_upto_block 0 with fail
  go_cut [4] (fun v wx => v = .int .i64 6 ∧ w2 = wx)
  case first =>
    go_wp2_with fail
    go_loopw [4, 11] (fun v i wx => ∃ k : Nat, k ≤ 7 ∧ i = .int .i64 k ∧ v = .int .i64 (if k = 7 then 6 else -1) ∧ wx = w2) (fun _ i _ => 7 - (intOf i).toNat)
    case atStart => exact ⟨0, by omega, rfl, rfl, rfl⟩
    case round =>
      obtain ⟨k, hk, rfl, rfl, rfl⟩ := hrel
      by_cases hlt : k < 7
      · by_cases h6 : k = 6
        · subst h6
          go_wp2_with (go_at_call 52; refine (HKN.out 6 _ (by omega)).mono ?_; rintro e w' ⟨rfl, rfl⟩)
          go_roundw
          case rel => exact ⟨7, by omega, by go_num, rfl, by first | rfl | trivial⟩
          case measure => simp [intOf]
        · have hne : (kindW k == mpW) = false := by
            obtain rfl | rfl | rfl | rfl | rfl | rfl : k = 0 ∨ k = 1 ∨ k = 2 ∨ k = 3 ∨ k = 4 ∨ k = 5 := by omega
            all_goals rfl
          have h7 : ¬ k = 7 := by omega
          rw [if_neg h7]
          go_wp2_with (go_at_call 52; refine (HKN.out k _ hlt).mono ?_; rintro e w' ⟨rfl, rfl⟩)
          go_roundw
          case rel => exact ⟨k + 1, by omega, by go_num, by rw [if_neg (by omega)], by first | rfl | trivial⟩
          case measure => simp [intOf]; omega
      · have h7 : k = 7 := by omega
        subst h7
        go_wp2_with fail
        go_meet
        case rel => exact ⟨by first | rfl | trivial, by first | rfl | trivial⟩
  case rest =>
    obtain ⟨rfl, rfl⟩ := hcut
    have HDN := Lib.hid (fun (k : Nat) (W : World) (hk : k = 1 ∨ k = 2 ∨ k = 3) => dimName_any k W hk)
    clear HKN
    go_upto_block 2 with fail
    go_cut [6] (fun v wx => v = .int .i64 d ∧ RowKit.Hid (RdS r q false T' wx ∧ DFr r w2 wx))
    case first =>
      go_wp2_with fail
      go_loopw [6, 7] (fun v i wx => ∃ j dm : Nat, 1 ≤ j ∧ j ≤ 4 ∧ i = .int .i64 j ∧ v = .int .i64 dm ∧ RowKit.Hid (TagSt r q d T' j dm w2 wx)) (fun _ i _ => 4 - (intOf i).toNat)
      case atStart => exact ⟨1, 0, by omega, by omega, rfl, rfl, Lib.hid ⟨.inl ⟨by omega, rfl, H2.out.1⟩, DFr.refl _ _⟩⟩
      case round =>
        obtain ⟨j, dm, hj1, hj4, rfl, rfl, hS⟩ := hrel
        by_cases hlt : j < 4
        · rcases hS.out with ⟨⟨h1, rfl, hR⟩ | ⟨h1, h2, rfl, hR⟩, hD0⟩
          · have hj : j = 1 ∨ j = 2 ∨ j = 3 := by omega
            have hw := rword r q (dimW j) false (tagT d ++ T') wr hR
            have HQ := Lib.hid (And.intro hw (And.intro h1 (And.intro hD0 hj)))
            clear hw hR hS h1 hD0 hj
            go_upto_if 37 with (first | (go_at_call 54; refine (HDN.out j _ HQ.out.2.2.2).mono ?_; rintro e w' ⟨rfl, rfl⟩) | (go_at_call 53; refine HQ.out.1.mono ?_; rintro e w3 ⟨b, rfl, hx, hD⟩; replace hx := Lib.hid hx))
            have hnx := TagSt.next hd HQ.out.2.2.2 HG.out.2.2.2.2.2 HQ.out.2.1 (by have h9 := hx.out; simp only [eq_self_iff_true] at h9 ⊢; exact h9) HQ.out.2.2.1 hD
            have HN := Lib.hid hnx
            clear hx hD hnx
            cases b with
            | true =>
              go_wp2_with fail
              go_roundw
              case rel => exact ⟨j + 1, j, by omega, by omega, by go_num, by first | rfl | trivial, Lib.hid HN.out⟩
              case measure => simp [intOf]; omega
            | false =>
              go_wp2_with fail
              go_roundw
              case rel => exact ⟨j + 1, 0, by omega, by omega, by go_num, by first | rfl | trivial, Lib.hid HN.out⟩
              case measure => simp [intOf]; omega
          · have hb : ((dm : Int) == 0) = false := beq_false_of_ne (by omega)
            have HQ := Lib.hid (And.intro h1 (And.intro h2 (And.intro hR hD0)))
            clear hR hS hD0
            go_wp2_with fail
            go_roundw
            case rel => exact ⟨j + 1, dm, by omega, by omega, by go_num, by first | rfl | trivial, Lib.hid ⟨.inr ⟨by omega, by omega, rfl, HQ.out.2.2.1⟩, HQ.out.2.2.2⟩⟩
            case measure => simp [intOf]; omega
        · have hj : j = 4 := by omega
          subst hj
          have hfin : dm = d ∧ RdS r q false T' wr ∧ DFr r w2 wr := by
            rcases hS.out with ⟨⟨h1, rfl, hR⟩ | ⟨h1, h2, rfl, hR⟩, hD0⟩
            · obtain rfl : d = 0 := by omega
              exact ⟨rfl, hR, hD0⟩
            · exact ⟨rfl, hR, hD0⟩
          obtain ⟨rfl, hR, hD0⟩ := hfin
          have HQ := Lib.hid (And.intro hR hD0)
          clear hR hD0 hS
          go_wp2_with fail
          go_meet
          case rel => exact ⟨by first | rfl | trivial, HQ⟩
    case rest =>
      obtain ⟨rfl, hz⟩ := hcut
      obtain ⟨hR, hD0⟩ := hz.out
      obtain ⟨hrl, hql⟩ := H2.out.2.2.2
      have hrf : Rf r w wc := H2.out.2.1.trans (Rf.ofD hD0)
      have hbd := rbody6 r q d false T' B g gl gp wc hR hd HG.out.2.1 (HG.out.2.2.1.rf hrf hr) hr hT
      have hgr : GRes w.heap.size wc := H2.out.2.2.1.rf (Rf.ofD hD0) (by omega)
      have HB := Lib.hid hbd
      have HC := Lib.hid (And.intro hrf (And.intro hgr (And.intro hrl hql)))
      clear hz hR hD0 hrl hql hrf hbd hgr HDN H2
      go_wp2_with (go_at_call 55; refine HB.out.mono ?_; rintro e w5 ⟨cs, x, b1, T1, rfl, hxR, hR5, hrf5, hsf5, hp5⟩; obtain ⟨y0, y1, y2, y3, y4, y5, y6, y7, rfl⟩ := (GKc.rep (GKc.rep (GLc.rep d) 3 d) 6 d).form _ _ _ _ hxR; obtain ⟨o0, o1, o2, o3⟩ := (HC.out.2.1.rf hrf5 (Nat.ne_of_lt HC.out.2.2.1)).out; have z0 := (HC.out.2.1.rf hrf5 (Nat.ne_of_lt HC.out.2.2.1)).froz 0; have z1 := (HC.out.2.1.rf hrf5 (Nat.ne_of_lt HC.out.2.2.1)).froz 1; have z2 := (HC.out.2.1.rf hrf5 (Nat.ne_of_lt HC.out.2.2.1)).froz 2; have z3 := (HC.out.2.1.rf hrf5 (Nat.ne_of_lt HC.out.2.2.1)).froz 3; have HX := Lib.hid (And.intro hxR (And.intro hR5 (And.intro hrf5 (And.intro hsf5 hp5)))); clear hxR hR5 hrf5 hsf5 hp5)
      have hd4 : DFr w.heap.size w5 ((((w5.setCell ⟨w.heap.size, 0, none⟩ (.int .i64 y0)).setCell ⟨w.heap.size, 1, none⟩ (.int .i64 y1)).setCell ⟨w.heap.size, 2, none⟩ (.slice y2 y3 y4)).setCell ⟨w.heap.size, 3, none⟩ (.slice y5 y6 y7)) := ((((DFr.refl _ _).set _ _).set _ _).set _ _).set _ _
      obtain ⟨hxR, hR5, hrf5, hsf5, hp5⟩ := HX.out
      obtain ⟨hrf, hgr, hrl, hql⟩ := HC.out
      refine bodyPost_ret_by (results_cell_row rfl _ _ w.heap.size 45 _ (0, 0) _ rfl ((hgr.rf hrf5 (Nat.ne_of_lt hrl)).fin _ _ _ _) Tryz.underlying45 rfl (by kernel_rfl)) rfl ?_
      have hl : w.heap.size < wc.heap.size := hgr.lt
      exact ⟨_, x, b1, T1, rfl, (GKc.rep (GKc.rep (GLc.rep d) 3 d) 6 d).mono _ _ _ _ _ ((GKc.rep (GKc.rep (GLc.rep d) 3 d) 6 d).keep _ w5 _ _ _ hxR fun k hk _ => hd4.1 k (by omega)) (fun k hk => by omega), hR5.own hd4 hrl hql, (hrf.trans hrf5).own (Nat.le_refl _) hd4, hsf5, hp5⟩
end Go.Proofs.YtblpcpkkjbkakaaGreatDoor
