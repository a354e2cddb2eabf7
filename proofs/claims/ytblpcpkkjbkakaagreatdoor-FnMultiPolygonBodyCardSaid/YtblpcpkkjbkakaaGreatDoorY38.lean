/- Lemmas towards the seat's laws: 4 texts joined. -/
import Derived.Test.YtblpcpkkjbkakaaGreatDoorRows
import Derived.Test.YtblpcpkkjbkakaaGreatDoorY37
import Derived.Lib.LaidTab
import Derived.Lib.LaidU8
import Derived.OpenShut
import Derived.ChangeSame
import Derived.Deep.Strs
import Derived.Stop.LaidErr
import Derived.WalkKit
import Derived.ProofKit
import Derived.Deep.DeepHandedRow
import Derived.Lay
/- What the rows' listed variables give a walk. -/
namespace Go.Proofs.YtblpcpkkjbkakaaGreatDoor
open Go Go.RowKit Go.ChangeShapes Go.Lib
set_option linter.unusedVariables false
set_option linter.unusedSimpArgs false

section
variable {P : Program} {w : World}
/-- A slice that reads as a list without spare. -/
theorem slice_reads {name : String} {g : Nat} {t e : TypeId} {ds : List (DataW Unit)} (hn : P.globalNamed name = some g) (hy : (P.globals[g]?).map (·.type) = some t) (ht : P.underlying t = some (.slice e)) (hl : 0 < ds.length)
    (h : VarReads P w name (.slice ds [])) :
    ∃ a : Addr, w.cell? ⟨g, 0, none⟩ = some (.slice (some a) ds.length ds.length) ∧ ∀ i d, ds[i]? = some d → ∃ cs n p, w.cells? 0 (a.add (i * P.cellsOf e)) (P.cellsOf e) = some cs ∧ DataW.trod (fun _ => ()) P w 0 (fun _ => true) false n e cs = some (d, p) := by
  obtain ⟨g', t', cs, fuel, p, hg, hty, hvar, hd⟩ := h
  obtain rfl := Option.some.inj (hn.symm.trans hg)
  obtain rfl := Option.some.inj (hy.symm.trans hty)
  rcases DataW.trod_slice ht hd with ⟨_, hx⟩ | ⟨a, len, cap, el, rs, m, rfl, hcs, hx, _, hlc, _, hel, helem, hsp, _⟩
  · cases hx
  have e0 := congrArg Prod.fst hx
  simp only [DataW.slice.injEq] at e0
  obtain ⟨eE, eR⟩ := e0
  have hlen : len = ds.length := by rw [eE, List.length_map]; omega
  have hr0 : rs.length = 0 := by
    have := congrArg List.length eR
    simpa using this.symm
  have hcap : cap = len := by have := (hsp rfl).1; omega
  refine ⟨a, ?_, fun i d hi => ?_⟩
  · rw [World.var?_cell hg hvar 0, ← Array.getElem?_toList, hcs, hcap, hlen]
    rfl
  · have hil := lt_of_get' hi
    have h1 := helem i (by omega)
    obtain ⟨b, hb⟩ : ∃ b, el[i]? = some b := ⟨el[i]'(by omega), List.getElem?_eq_getElem (by omega)⟩
    rw [hb] at h1
    obtain ⟨ce, hce, hte⟩ := Option.bind_eq_some_iff.1 h1
    have hb1 : b.1 = d := by
      rw [eE, List.getElem?_map, hb] at hi
      exact Option.some.inj hi
    exact ⟨ce, m, b.2, hce, by rw [hte, ← hb1]⟩
/-- The cells of a global, and how it reads. -/
theorem var_reads {name : String} {g : Nat} {t : TypeId} {d : DataW Unit} (hn : P.globalNamed name = some g) (hy : (P.globals[g]?).map (·.type) = some t) (h : VarReads P w name d) :
    ∃ cs n p, (∀ i v, cs[i]? = some v → w.cell? ⟨g, i, none⟩ = some v) ∧ DataW.trod (fun _ => ()) P w 0 (fun _ => true) false n t cs = some (d, p) := by
  obtain ⟨g', t', cs, fuel, p, hg, hty, hvar, hd⟩ := h
  obtain rfl := Option.some.inj (hn.symm.trans hg)
  obtain rfl := Option.some.inj (hy.symm.trans hty)
  exact ⟨cs.toList, fuel, p, fun i v hv => by rw [World.var?_cell hg hvar i, ← Array.getElem?_toList]; exact hv, hd⟩
theorem trod_float {enc : TypeId × Value → Unit} {fuel : Nat} {sp : Nat → Bool} {held : Bool} {base : Nat} {t : TypeId} {k : FloatKind} {cs : List Value} {x : DataW Unit × List MemPlace} (ht : P.underlying t = some (.float k)) (h : DataW.trod enc P w base sp held fuel t cs = some x) : ∃ b, cs = [.float k b] ∧ x.1 = .lit (.float k b) := by
  cases fuel with
  | zero => simp [DataW.trod] at h
  | succ n =>
    match cs with
    | [] => simp [DataW.trod, ht] at h
    | _ :: _ :: _ => simp [DataW.trod, ht] at h
    | [c] =>
      cases c <;> simp [DataW.trod, ht] at h
      obtain ⟨⟨rfl, _⟩, rfl⟩ := h
      exact ⟨_, rfl, rfl⟩
theorem cells_one {a : Addr} {v : Value} (h : w.cells? 0 a 1 = some [v]) : w.cell? a = some v := by
  obtain ⟨_, _, hcc⟩ := World.cells?_some h
  have := hcc 0 (by omega)
  have e1 : a.add 0 = a := by simp [Addr.add]
  rw [e1] at this
  rw [this]; rfl
theorem cells_two {a : Addr} {u v : Value} (h : w.cells? 0 a 2 = some [u, v]) : w.cell? a = some u ∧ w.cell? (a.add 1) = some v := by
  obtain ⟨_, _, hcc⟩ := World.cells?_some h
  have h0 := hcc 0 (by omega)
  have h1 := hcc 1 (by omega)
  have e1 : a.add 0 = a := by simp [Addr.add]
  rw [e1] at h0
  exact ⟨by rw [h0]; rfl, by rw [h1]; rfl⟩
end

/-- The list that both rows bear. -/
def laidL : List (String × DataW Unit) := Rows.fnReadNumberRow.laid
theorem n1 : Tryz.prog.globalNamed "pub-alidade/pub/simplefeatures/geom.wktUnexpectedEOF" = some 1 := by kernel_rfl
theorem n2 : Tryz.prog.globalNamed "strconv.ErrSyntax" = some 2 := by kernel_rfl
theorem n3 : Tryz.prog.globalNamed "strconv.ErrRange" = some 3 := by kernel_rfl
theorem n4 : Tryz.prog.globalNamed "io.EOF" = some 4 := by kernel_rfl
theorem n6 : Tryz.prog.globalNamed "internal/strconv.optimize" = some 6 := by kernel_rfl
theorem n7 : Tryz.prog.globalNamed "internal/strconv.float64info" = some 7 := by kernel_rfl
theorem n8 : Tryz.prog.globalNamed "unicode/utf8.first" = some 8 := by kernel_rfl
theorem n12 : Tryz.prog.globalNamed "internal/strconv.powtab" = some 12 := by kernel_rfl
theorem n13 : Tryz.prog.globalNamed "internal/strconv.float64pow10" = some 13 := by kernel_rfl
theorem n14 : Tryz.prog.globalNamed "internal/strconv.pow10Tab" = some 14 := by kernel_rfl
theorem n15 : Tryz.prog.globalNamed "internal/strconv.leftcheats" = some 15 := by kernel_rfl
theorem y1 : (Tryz.prog.globals[1]?).map (·.type) = some 109 := by kernel_rfl
theorem y2 : (Tryz.prog.globals[2]?).map (·.type) = some 37 := by kernel_rfl
theorem y3 : (Tryz.prog.globals[3]?).map (·.type) = some 37 := by kernel_rfl
theorem y4 : (Tryz.prog.globals[4]?).map (·.type) = some 37 := by kernel_rfl
theorem y6 : (Tryz.prog.globals[6]?).map (·.type) = some 4 := by kernel_rfl
theorem y7 : (Tryz.prog.globals[7]?).map (·.type) = some 198 := by kernel_rfl
theorem y8 : (Tryz.prog.globals[8]?).map (·.type) = some 223 := by kernel_rfl
theorem y12 : (Tryz.prog.globals[12]?).map (·.type) = some 246 := by kernel_rfl
theorem y13 : (Tryz.prog.globals[13]?).map (·.type) = some 42 := by kernel_rfl
theorem y14 : (Tryz.prog.globals[14]?).map (·.type) = some 253 := by kernel_rfl
theorem y15 : (Tryz.prog.globals[15]?).map (·.type) = some 264 := by kernel_rfl
theorem co3 : Tryz.prog.cellsOf 3 = 1 := by kernel_rfl
theorem co25 : Tryz.prog.cellsOf 25 = 1 := by kernel_rfl
theorem co263 : Tryz.prog.cellsOf 263 = 2 := by kernel_rfl


theorem ints_slice {P : Program} {w : World} {name : String} {g : Nat} {t e : TypeId} {k : IntKind} (zs : List Int) (hn : P.globalNamed name = some g) (hy : (P.globals[g]?).map (·.type) = some t) (ht : P.underlying t = some (.slice e)) (he : P.underlying e = some (.int k)) (hc : P.cellsOf e = 1) (hl : 0 < zs.length)
    (h : VarReads P w name (.slice (zs.map fun z => .lit (.int k z)) [])) :
    ∃ R o, w.cell? ⟨g, 0, none⟩ = some (.slice (some ⟨R, o, none⟩) zs.length zs.length) ∧ ∀ i z, zs[i]? = some z → w.cell? ⟨R, o + i, none⟩ = some (.int k z) := by
  obtain ⟨a, h1, h2⟩ := slice_reads hn hy ht (by simpa using hl) h
  have hcell : ∀ i z, zs[i]? = some z → w.cell? (a.add i) = some (.int k z) := by
    intro i z hz
    obtain ⟨cs, n, p, h3, h4⟩ := h2 i (.lit (.int k z)) (by rw [List.getElem?_map, hz]; rfl)
    obtain ⟨z', rfl, h5, _⟩ := DataW.trod_int he h4
    have h6 := congrArg Prod.fst h5
    simp only [DataW.lit.injEq, Lit.int.injEq, true_and] at h6
    rw [hc, Nat.mul_one] at h3
    rw [cells_one h3, h6]
  obtain ⟨R, o, sp⟩ := a
  obtain rfl : sp = none := by
    obtain ⟨z, hz⟩ : ∃ z, zs[0]? = some z := ⟨zs[0], List.getElem?_eq_getElem hl⟩
    have := hcell 0 z hz
    have e1 : (⟨R, o, sp⟩ : Addr).add 0 = ⟨R, o, sp⟩ := by simp [Addr.add]
    rw [e1] at this
    exact Go.Proofs.cell_spot this
  refine ⟨R, o, by simpa using h1, fun i z hz => ?_⟩
  have := hcell i z hz
  rwa [Addr.add_lit] at this
theorem floats_slice {P : Program} {w : World} {name : String} {g : Nat} {t e : TypeId} {k : FloatKind} (zs : List Nat) (hn : P.globalNamed name = some g) (hy : (P.globals[g]?).map (·.type) = some t) (ht : P.underlying t = some (.slice e)) (he : P.underlying e = some (.float k)) (hc : P.cellsOf e = 1) (hl : 0 < zs.length)
    (h : VarReads P w name (.slice (zs.map fun z => .lit (.float k z)) [])) :
    ∃ R o, w.cell? ⟨g, 0, none⟩ = some (.slice (some ⟨R, o, none⟩) zs.length zs.length) ∧ ∀ i z, zs[i]? = some z → w.cell? ⟨R, o + i, none⟩ = some (.float k z) := by
  obtain ⟨a, h1, h2⟩ := slice_reads hn hy ht (by simpa using hl) h
  have hcell : ∀ i z, zs[i]? = some z → w.cell? (a.add i) = some (.float k z) := by
    intro i z hz
    obtain ⟨cs, n, p, h3, h4⟩ := h2 i (.lit (.float k z)) (by rw [List.getElem?_map, hz]; rfl)
    obtain ⟨z', rfl, h5⟩ := trod_float he h4
    simp only [DataW.lit.injEq, Lit.float.injEq, true_and] at h5
    rw [hc, Nat.mul_one] at h3
    rw [cells_one h3, h5]
  obtain ⟨R, o, sp⟩ := a
  obtain rfl : sp = none := by
    obtain ⟨z, hz⟩ : ∃ z, zs[0]? = some z := ⟨zs[0], List.getElem?_eq_getElem hl⟩
    have := hcell 0 z hz
    have e1 : (⟨R, o, sp⟩ : Addr).add 0 = ⟨R, o, sp⟩ := by simp [Addr.add]
    rw [e1] at this
    exact Go.Proofs.cell_spot this
  refine ⟨R, o, by simpa using h1, fun i z hz => ?_⟩
  have := hcell i z hz
  rwa [Addr.add_lit] at this
set_option maxRecDepth 100000 in
theorem cheat_slice {w : World} (h : VarReads Tryz.prog w "internal/strconv.leftcheats" (.slice (Go.Pinned.cheatRows.map fun x => .agg [.lit (.int .i64 x.1), .lit (.string x.2)]) [])) :
    ∃ R o, w.cell? ⟨15, 0, none⟩ = some (.slice (some ⟨R, o, none⟩) 61 61) ∧ ∀ i x, Go.Pinned.cheatRows[i]? = some x → w.cell? ⟨R, o + i * 2, none⟩ = some (.int .i64 x.1) ∧ w.cell? ⟨R, o + i * 2 + 1, none⟩ = some (.string ⟨x.2.toArray⟩) := by
  have hlen : Go.Pinned.cheatRows.length = 61 := by kernel_rfl
  obtain ⟨a, h1, h2⟩ := slice_reads n15 y15 Tryz.underlying264 (by rw [List.length_map, hlen]; decide) h
  rw [List.length_map, hlen] at h1
  have hcell : ∀ i x, Go.Pinned.cheatRows[i]? = some x → w.cell? (a.add (i * 2)) = some (.int .i64 x.1) ∧ w.cell? ((a.add (i * 2)).add 1) = some (.string ⟨x.2.toArray⟩) := by
    intro i x hx
    obtain ⟨cs, n, p, h3, h4⟩ := h2 i _ (by rw [List.getElem?_map, hx]; rfl)
    obtain ⟨y0, y1, m, h5, h6, h7, h8⟩ := trod_struct2 Tryz.underlying263 h4
    rw [co263] at h3 h6
    obtain ⟨u, v, rfl⟩ : ∃ u v, cs = [u, v] := by
      have h6' : cs.length = 2 := h6
      match cs, h6' with
      | [u, v], _ => exact ⟨u, v, rfl⟩
    · obtain ⟨z, hz, hz2, _⟩ := DataW.trod_int Tryz.underlying3 h7
      obtain ⟨b, hb, hb2, _⟩ := DataW.trod_string Tryz.underlying9 h8
      have hc9 : Tryz.prog.cellsOf 9 = 1 := by kernel_rfl
      dsimp only at hz hb
      rw [co3] at hz
      rw [hc9] at hb
      have hu : u = .int .i64 z := by simpa using hz
      have hv : v = .string b := by simpa using hb
      rw [hz2, hb2] at h5
      have h9 := congrArg Prod.fst h5
      simp only [DataW.agg.injEq, List.cons.injEq, DataW.lit.injEq, Lit.int.injEq, Lit.string.injEq, true_and, and_true] at h9
      obtain ⟨c1, c2⟩ := cells_two h3
      refine ⟨by rw [c1, hu, h9.1], ?_⟩
      rw [c2, hv, h9.2]
  obtain ⟨R, o, sp⟩ := a
  obtain rfl : sp = none := by
    obtain ⟨x, hx⟩ : ∃ x, Go.Pinned.cheatRows[0]? = some x := ⟨_, rfl⟩
    have := (hcell 0 x hx).1
    have e1 : (⟨R, o, sp⟩ : Addr).add (0 * 2) = ⟨R, o, sp⟩ := by simp [Addr.add]
    rw [e1] at this
    exact Go.Proofs.cell_spot this
  refine ⟨R, o, h1, fun i x hx => ?_⟩
  have := hcell i x hx
  rwa [Addr.add_lit, Addr.add_lit] at this

end Go.Proofs.YtblpcpkkjbkakaaGreatDoor
/- From the rows' listed variables to what a walk wants. -/
namespace Go.Proofs.YtblpcpkkjbkakaaGreatDoor
open Go Go.RowKit Go.ChangeShapes Go.Lib
set_option linter.unusedVariables false
set_option linter.unusedSimpArgs false
set_option maxRecDepth 100000

theorem errStar : "*" ++ "errors.errorString" = "*errors.errorString" := by decide
theorem row215 (u : TypeId) (h : Tryz.prog.typeName? 3 u = some "*errors.errorString") : u = 215 :=
  typeName_ptr_named (nm := "errors.errorString") (by rw [errStar]; kernel_rfl) (by kernel_rfl) (by decide) u (by rw [errStar]; exact h)
theorem co217 : Tryz.prog.cellsOf 217 = 1 := by kernel_rfl
theorem co9 : Tryz.prog.cellsOf 9 = 1 := by kernel_rfl
theorem laid_mem {W : World} (hL : laidMet Tryz.prog laidL W) (i : Nat) {n : String} {d : DataW Unit} (h : laidL[i]? = some (n, d)) : VarReads Tryz.prog W n d := laidMet.reads hL (List.mem_of_getElem? h)
theorem sent {W : World} {n : String} {text : List UInt8} {r : List (String × DataW Unit)} {g : Nat} (h : laidMet Tryz.prog ((n, .iface "*errors.errorString" (.ptr (.agg [.lit (.string text)]))) :: r) W) (hg : Tryz.prog.globalNamed n = some g) (ht : (Tryz.prog.globals[g]?).map (·.type) = some 37) (hl : text.length ≤ 1000) :
    ∃ ea txt, W.cell? ⟨g, 0, none⟩ = some (.iface 215 (.pointer (some ea))) ∧ ea.block < W.heap.size ∧ W.cell? ea = some (.string txt) ∧ txt.size ≤ 1000 := by
  obtain ⟨a, s, h1, h2, h3, -⟩ := laid_sentinel h hg ht Tryz.underlying37 row215 Tryz.underlying215 Tryz.underlying217 rfl rfl Tryz.underlying9 co217 co9
  refine ⟨a, s, ?_, ?_, h2, ?_⟩
  · rw [World.var?_cell hg h1 0]; rfl
  · unfold World.cell? at h2
    apply Nat.lt_of_not_le
    intro hle
    rw [Array.getElem?_eq_none hle] at h2
    simp at h2
  · rw [Lib.size_eq, h3]; exact hl
theorem cell_lt {W : World} {b i : Nat} {v : Value} (h : W.cell? ⟨b, i, none⟩ = some v) : b < W.heap.size := by
  unfold World.cell? at h
  apply Nat.lt_of_not_le
  intro hle
  rw [Array.getElem?_eq_none (show W.heap.size ≤ b from hle)] at h
  simp at h

theorem powtab_z : ∀ i : Fin 9, ([1, 3, 6, 9, 13, 16, 19, 23, 26] : List Int)[i.1]? = some ((pw i.1 : Nat) : Int) := by decide
def f64z : List Nat := (List.range 23).map pw10
theorem f64_datum : Rows.laid_internal_strconv_float64pow10 (H := Unit) = .slice (f64z.map fun z => .lit (.float .f64 z)) [] := by kernel_rfl
theorem laid3 : laidL[3]? = some ("internal/strconv.float64info", Rows.laid_internal_strconv_float64info) := rfl
theorem laid4 : laidL[4]? = some ("internal/strconv.optimize", Rows.laid_internal_strconv_optimize) := rfl
theorem laid5 : laidL[5]? = some ("internal/strconv.powtab", Rows.laid_internal_strconv_powtab) := rfl
theorem laid6 : laidL[6]? = some ("internal/strconv.float64pow10", Rows.laid_internal_strconv_float64pow10) := rfl
theorem laid14 : laidL[14]? = some ("pub-alidade/pub/simplefeatures/geom.wktUnexpectedEOF", Rows.laid_pub_alidade_pub_simplefeatures_geom_wktUnexpectedEOF) := rfl
theorem laid15 : laidL[15]? = some ("internal/strconv.leftcheats", Rows.laid_internal_strconv_leftcheats) := rfl
theorem laid16 : laidL[16]? = some ("internal/strconv.pow10Tab", Rows.laid_internal_strconv_pow10Tab) := rfl
theorem laid17 : laidL[17]? = some ("unicode/utf8.first", Rows.laid_unicode_utf8_first) := rfl

theorem glL_of {W : World} (hL : laidMet Tryz.prog laidL W) : ∃ gl, GlL gl W := by
  obtain ⟨R, o, h1, h2⟩ := cheat_slice (laid_mem hL 15 laid15)
  have hlen : Go.Pinned.cheatRows.length = 61 := by kernel_rfl
  refine ⟨(R, o), h1, fun k hk => ?_, fun k hk => ?_⟩
  · have hx := List.getElem?_eq_getElem (l := Go.Pinned.cheatRows) (i := k) (by omega)
    have := (h2 k _ hx).1
    rw [this]
    unfold cutD
    rw [List.getD_eq_getElem?_getD, hx]; rfl
  · have hx := List.getElem?_eq_getElem (l := Go.Pinned.cheatRows) (i := k) (by omega)
    have := (h2 k _ hx).2
    rw [this]
    unfold cutB
    rw [List.getD_eq_getElem?_getD, hx]; rfl
theorem info_of {W : World} (hL : laidMet Tryz.prog laidL W) : W.cell? ⟨7, 0, none⟩ = some (.int .u64 52) ∧ W.cell? ⟨7, 1, none⟩ = some (.int .u64 11) ∧ W.cell? ⟨7, 2, none⟩ = some (.int .i64 (-1023)) := by
  obtain ⟨cs, n, p, h1, h2⟩ := var_reads n7 y7 (laid_mem hL 3 laid3)
  obtain ⟨x0, x1, x2, m, h5, h6, h7, h8, h9⟩ := Go.Deep.trod_struct3 Tryz.underlying198 h2
  have c198 : Tryz.prog.cellsOf 198 = 3 := by kernel_rfl
  have c94 : Tryz.prog.cellsOf 94 = 1 := by kernel_rfl
  rw [c198] at h6
  obtain ⟨u, v, t, rfl⟩ : ∃ u v t, cs = [u, v, t] := by
    have h6' : cs.length = 3 := h6
    match cs, h6' with
    | [u, v, t], _ => exact ⟨u, v, t, rfl⟩
  obtain ⟨z0, a0, b0, _⟩ := DataW.trod_int Tryz.underlying94 h7
  obtain ⟨z1, a1, b1, _⟩ := DataW.trod_int Tryz.underlying94 h8
  obtain ⟨z2, a2, b2, _⟩ := DataW.trod_int Tryz.underlying3 h9
  dsimp only at a0 a1 a2
  rw [c94] at a0 a1
  rw [co3] at a2
  have e0 : u = .int .u64 z0 := by simpa using a0
  have e1 : v = .int .u64 z1 := by simpa using a1
  have e2 : t = .int .i64 z2 := by simpa using a2
  rw [b0, b1, b2] at h5
  have h := congrArg Prod.fst h5
  simp only [Rows.laid_internal_strconv_float64info, DataW.agg.injEq, List.cons.injEq, DataW.lit.injEq, Lit.int.injEq, true_and, and_true] at h
  obtain ⟨rfl, rfl, rfl⟩ := h
  exact ⟨h1 0 _ (by rw [e0]; rfl), h1 1 _ (by rw [e1]; rfl), h1 2 _ (by rw [e2]; rfl)⟩
theorem opt_of {W : World} (hL : laidMet Tryz.prog laidL W) : W.cell? ⟨6, 0, none⟩ = some (.bool true) := by
  obtain ⟨cs, n, p, h1, h2⟩ := var_reads n6 y6 (laid_mem hL 4 laid4)
  obtain ⟨b, rfl, hb⟩ := DataW.trod_bool Tryz.underlying4 h2
  have h := congrArg Prod.fst hb
  simp only [Rows.laid_internal_strconv_optimize, DataW.lit.injEq, Lit.bool.injEq] at h
  rw [h]
  exact h1 0 _ rfl
theorem eof_of {W : World} (hL : laidMet Tryz.prog laidL W) : GlE W := by
  obtain ⟨cs, n, p, h1, h2⟩ := var_reads n1 y1 (laid_mem hL 14 laid14)
  obtain ⟨x0, m, h5, h6, h7⟩ := trod_struct1 Tryz.underlying109 h2
  have c109 : Tryz.prog.cellsOf 109 = 1 := by kernel_rfl
  rw [c109] at h6
  obtain ⟨u, rfl⟩ : ∃ u, cs = [u] := by
    have h6' : cs.length = 1 := h6
    match cs, h6' with
    | [u], _ => exact ⟨u, rfl⟩
  obtain ⟨b, hb, _⟩ := DataW.trod_string Tryz.underlying9 h7
  dsimp only at hb
  rw [co9] at hb
  have e0 : u = .string b := by simpa using hb
  exact ⟨b, h1 0 _ (by rw [e0]; rfl)⟩

end Go.Proofs.YtblpcpkkjbkakaaGreatDoor
/- All that a walk wants, out of the rows' listed variables. -/
namespace Go.Proofs.YtblpcpkkjbkakaaGreatDoor
open Go Go.RowKit Go.ChangeShapes Go.Lib
set_option linter.unusedVariables false
set_option linter.unusedSimpArgs false
set_option maxRecDepth 100000

theorem trod_struct2_of {cs : List Value} {x y : DataW Unit} {n : Nat} {w : World} {p : List MemPlace} (h : DataW.trod (fun _ => ()) Tryz.prog w 0 (fun _ => true) false n 252 cs = some (.agg [x, y], p)) :
    ∃ a b m, cs = [a, b] ∧ (DataW.trod (fun _ => ()) Tryz.prog w 0 (fun _ => true) false m 30 [a]).map Prod.fst = some x ∧ (DataW.trod (fun _ => ()) Tryz.prog w 0 (fun _ => true) false m 30 [b]).map Prod.fst = some y := by
  have c252 : Tryz.prog.cellsOf 252 = 2 := by kernel_rfl
  have c30 : Tryz.prog.cellsOf 30 = 1 := by kernel_rfl
  obtain ⟨y0, y1, m, h5, h6, h7, h8⟩ := trod_struct2 Tryz.underlying252 h
  rw [c252] at h6
  obtain ⟨u, v, rfl⟩ : ∃ u v, cs = [u, v] := by
    have h6' : cs.length = 2 := h6
    match cs, h6' with
    | [u, v], _ => exact ⟨u, v, rfl⟩
  dsimp only at h7 h8
  rw [c30] at h7 h8
  have e := congrArg Prod.fst h5
  simp only [DataW.agg.injEq, List.cons.injEq, and_true] at e
  obtain ⟨rfl, rfl⟩ := e
  refine ⟨u, v, m, rfl, ?_, ?_⟩
  · have : ([u, v].drop 0).take 1 = [u] := rfl
    rw [this] at h7
    rw [h7]; rfl
  · have : ([u, v].drop 1).take 1 = [v] := rfl
    rw [this] at h8
    rw [h8]; rfl
theorem trod_u64_of {v : Value} {n : Nat} {w : World} {z : Int} (h : (DataW.trod (fun _ => ()) Tryz.prog w 0 (fun _ => true) false n 30 [v]).map Prod.fst = some (.lit (.int .u64 z))) : v = .int .u64 z := by
  obtain ⟨x, h1, h2⟩ := Option.map_eq_some_iff.1 h
  obtain ⟨z', hz, h3, _⟩ := DataW.trod_int Tryz.underlying30 h1
  have e0 : v = .int .u64 z' := by simpa using hz
  rw [h3] at h2
  simp only [DataW.lit.injEq, Lit.int.injEq, true_and] at h2
  rw [e0, h2]
theorem p10_of {W : World} (hL : laidMet Tryz.prog laidL W) : ∀ q, q < 696 → W.cell? ⟨14, q * 2, none⟩ = some (.int .u64 (p10 q).1) ∧ W.cell? ⟨14, q * 2 + 1, none⟩ = some (.int .u64 (p10 q).2) := by
  intro q hq
  obtain ⟨cs, n, p, h1, h2⟩ := var_reads n14 y14 (laid_mem hL 16 laid16)
  have hel : Tryz.prog.cellsOf 252 = 2 := by kernel_rfl
  obtain ⟨m, d, pl, h3, h4⟩ := array_elem Tryz.underlying253 h2 q hq
  rw [hel] at h4
  have hx := List.getElem?_eq_getElem (l := Go.Pinned.pow10Rows) (i := q) (by rw [p10_len]; exact hq)
  rw [List.getElem?_map, hx] at h3
  have hd := Option.some.inj h3
  rw [← hd] at h4
  obtain ⟨a, b, k, h5, h6, h7⟩ := trod_struct2_of h4
  have ea := trod_u64_of h6
  have eb := trod_u64_of h7
  have g0 : cs[q * 2]? = some a := by
    have := congrArg (fun l => l[0]?) h5
    simpa [List.getElem?_take, List.getElem?_drop] using this
  have g1 : cs[q * 2 + 1]? = some b := by
    have := congrArg (fun l => l[1]?) h5
    simpa [List.getElem?_take, List.getElem?_drop] using this
  have hp : p10 q = Go.Pinned.pow10Rows[q]'(by rw [p10_len]; exact hq) := by
    unfold p10
    rw [List.getD_eq_getElem?_getD, hx]; rfl
  rw [hp]
  exact ⟨h1 _ _ (by rw [g0, ea]), h1 _ _ (by rw [g1, eb])⟩
theorem f128 : ∀ i : Fin 128, Go.Pinned.utf8FirstZ[i.1]? = some 240 := by decide
theorem utf_datum : Rows.laid_unicode_utf8_first = (tabData .u8 (Go.Pinned.utf8FirstZ.map Int.ofNat) : DataW Unit) := by kernel_rfl
theorem first_of {W : World} (hL : laidMet Tryz.prog laidL W) : ∀ x, x < 128 → W.cell? ⟨8, x, none⟩ = some (.int .u8 240) := by
  intro x hx
  obtain ⟨cs, n, p, h1, h2⟩ := var_reads n8 y8 (laid_mem hL 17 laid17)
  rw [utf_datum] at h2
  have c5 : Tryz.prog.cellsOf 5 = 1 := by kernel_rfl
  have c223 : Tryz.prog.cellsOf 223 = 256 := by kernel_rfl
  have hcs := cells_of_tab Tryz.underlying223 Tryz.underlying5 c5 c223 h2
  refine h1 x _ ?_
  rw [hcs, List.getElem?_map, List.getElem?_map, f128 ⟨x, hx⟩]
  rfl
theorem tail9 : ∃ L, laidL = L ++ laidL.drop 10 := ⟨laidL.take 10, (List.take_append_drop 10 laidL).symm⟩
theorem laidMet_drop {W : World} : ∀ (n : Nat) (l : List (String × DataW Unit)), laidMet Tryz.prog l W → laidMet Tryz.prog (l.drop n) W
  | 0, l, h => h
  | n + 1, [], h => h
  | n + 1, x :: r, h => laidMet_drop n r (laidMet.tail h)
theorem glN_of_laid {W : World} (hL : laidMet Tryz.prog laidL W) : ∃ g gl gp, GlN W.heap.size g gl gp W := by
  obtain ⟨gl, hl⟩ := glL_of hL
  obtain ⟨Rp, op, hp1, hp2⟩ := ints_slice [1, 3, 6, 9, 13, 16, 19, 23, 26] n12 y12 Tryz.underlying246 Tryz.underlying3 co3 (by decide) (laid_mem hL 5 laid5)
  have hf := laid_mem hL 6 laid6
  rw [f64_datum] at hf
  have hflen : f64z.length = 23 := by simp [f64z]
  obtain ⟨Rf, of, hf1, hf2⟩ := floats_slice f64z n13 y13 Tryz.underlying42 Tryz.underlying25 co25 (by rw [hflen]; decide) hf
  rw [hflen] at hf1
  obtain ⟨i0, i1, i2⟩ := info_of hL
  have hpw : ∀ i, i < 9 → W.cell? ⟨Rp, op + i, none⟩ = some (.int .i64 (pw i : Nat)) := fun i hi => hp2 i _ (powtab_z ⟨i, hi⟩)
  have hfw : ∀ i, i < 23 → W.cell? ⟨Rf, of + i, none⟩ = some (.float .f64 (pw10 i)) := fun i hi => hf2 i _ (by simp [f64z, hi])
  have hR := sent (W := W) (laidMet_drop 10 laidL hL) n3 y3 (by decide)
  have hS := sent (W := W) (laidMet_drop 11 laidL hL) n2 y2 (by decide)
  have hE := sent (W := W) (laidMet_drop 12 laidL hL) n4 y4 (by decide)
  have z15 := cell_lt hl.tab
  have zl := cell_lt (hl.del 0 (by omega))
  have zf := cell_lt (hfw 0 (by omega))
  have zp := cell_lt (hpw 0 (by omega))
  exact ⟨(Rf, of), gl, (Rp, op), ⟨by obtain ⟨ea, _, h, _⟩ := hE; exact ⟨ea, h⟩, first_of hL⟩, eof_of hL, ⟨⟨i0, hf1, hfw⟩, ⟨hl, hp1, hpw, i0, i1, i2⟩, opt_of hL, p10_of hL, by omega, zf, zl, zp⟩, ⟨hS, hR⟩, by omega, zf, zl, zp, Nat.le_refl _⟩
end Go.Proofs.YtblpcpkkjbkakaaGreatDoor
/- A world that holds what the rows list; what a walk that writes nothing old leaves. -/
namespace Go.Proofs.YtblpcpkkjbkakaaGreatDoor
open Go Go.ChangeShapes Go.WideShapes Go.ChangeAt Go.RowKit Go.Lib
set_option linter.unusedVariables false
set_option linter.unusedSimpArgs false
set_option maxRecDepth 100000

theorem own : ownKnob Tryz.prog.godebug = none := by kernel_rfl
/-- What a call leaves that wrote nothing old, where the arguments hold no place. -/
theorem post_of_new {H : Type} {enc : TypeId × Value → H} {P : Program} {f : Func} {s : ChangeSpec} {apart fresh handsOn again : Bool} {W W' : World} {args : Array Value} {v : Value} {ds gs : List (DataW H)}
    (hW : DataW.Whole enc P f.params.toList s.vars apart W args.toList ds gs [])
    (hres : ∀ (b : Nat) (sp : Nat → Bool) (hd : Bool), DataW.TrodAll enc P W' b sp hd f.resultTypes.toList (v.resultList f.resultTypes.size) (s.fn H (ds ++ gs)).results [])
    (hargs : ∀ sp : Nat → Bool, DataW.TrodAll enc P W' 0 sp true f.params.toList args.toList (s.fn H (ds ++ gs)).args [])
    (hvars : ∀ sp : Nat → Bool, DataW.TrodVars enc P W' sp s.vars (s.fn H (ds ++ gs)).vars [])
    (hb : Below W.heap.size W W')
    (hok : ∀ (j : Nat) (t : TypeId) (r : Value), f.resultTypes[j]? = some t → (v.resultList f.resultTypes.size)[j]? = some r → Value.okWide P W' .any 0 t r) :
    s.post enc P f apart fresh handsOn again W args v W' := by
  refine ⟨ds, gs, [], [], [], [], hW, hres _ _ _, hargs _, hvars _, ⟨hb.os, hb.output, fun i hi => ?_⟩, fun _ => ?_⟩
  · rw [hb.block i hi]
    cases W.heap[i]? with
    | none => rfl
    | some o => cases o <;> first | exact ⟨rfl, rfl, rfl, fun _ _ => rfl⟩ | exact Or.inr ⟨rfl, rfl⟩ | rfl
  · exact ⟨hok, _, _, [], ⟨[], [], trodAll_append (hargs _) (hres _ _ _), hvars _, rfl, (fun b off hp => nomatch hp), fun _ => List.nodup_nil⟩, fun p hp => nomatch hp⟩

/-- A world for the witness: each listed variable holds what its initialiser lays. -/
noncomputable def laidWorld (os : Os) : World := World.laidAll Tryz.prog os laidL
theorem laid_met (os : Os) (args : Array Value) : laidMet Tryz.prog laidL ((laidWorld os).forCall (fun _ _ => 0) ⟨#[], args, []⟩).memory := laidMet_laidAll _ (by kernel_rfl) (by kernel_rfl)
theorem laid_shaped (os : Os) (args : Array Value) : ((laidWorld os).forCall (fun _ _ => 0) ⟨#[], args, []⟩).Shaped Tryz.prog := World.shaped_of_ZipB (by kernel_rfl) (by kernel_rfl)
end Go.Proofs.YtblpcpkkjbkakaaGreatDoor
