/- Lemmas towards the seat's laws: 1 texts joined. -/
import Derived.Test.YtblpcpkkjbkakaaGreatDoorCards
import Derived.Test.YtblpcpkkjbkakaaGreatDoorTie
import Derived.Test.YtblpcpkkjbkakaaGreatDoorY38
import Derived.WalkKit
import Derived.ProofKit
import Derived.OpenShut
import Derived.ChangeMaps5
import Derived.Deep.DeepHandedRow
/- What FnMultiPolygonBody's card asks, given its walk: what the list gives (R3), the witness (R4). -/
namespace Go.Proofs.YtblpcpkkjbkakaaGreatDoor.fnMultiPolygonBody
open Go Go.ChangeShapes Go.WideShapes Go.ChangeAt Go.RowKit Go.ChangeMaps
set_option linter.unusedVariables false
set_option maxRecDepth 100000

/-- What the walk shows (QB). -/
def Walk : Prop := ∀ (s : ByteArray) (d : Int) (w : World), s.size ≤ 9223372036854775807 → ∀ (B0 : Nat) (g gl gp : Nat × Nat), GlN B0 g gl gp w → Calls Tryz.prog 4 #[.string s, .int .i64 d] w fun e w' => e = .returned (.bool true) ∧ Below w.heap.size w w'
theorem contract (hfn : Walk) (H : Type) (enc : TypeId × Value → H) (W : World) (base : Nat) (args : Array Value) (ds gs : List (DataW H)) (before : List MemPlace)
    (hval : ∀ (j : Nat) t v, Tryz.f4.params[j]? = some t → args[j]? = some v → Value.okWide Tryz.prog W .any base t v)
    (hW : DataW.Whole enc Tryz.prog Tryz.f4.params.toList Rows.fnMultiPolygonBodySpec.vars false W args.toList ds gs before) (hL : laidMetH Tryz.prog Rows.fnMultiPolygonBodyRow.laid W) :
    Calls Tryz.prog 4 args W fun e W' => ∃ v, e = .returned v ∧ Rows.fnMultiPolygonBodySpec.post enc Tryz.prog Tryz.f4 false true false false W args v W' := by
  have hW' := hW
  obtain ⟨p, q, hA0, hV, rfl, hfz, hnd⟩ := hW
  have hA : DataW.TrodAll enc Tryz.prog W 0 (fun _ => true) true Tryz.f4.params.toList args.toList ds p := hA0
  rw [Tryz.params4] at hA hval
  obtain ⟨v0, vs0, d0, ds0, p0, q0, hargs, rfl, rfl, h0, r0⟩ := trodAll_cons hA
  obtain ⟨v1, vs1, d1, ds1, p1, q1, rfl, rfl, rfl, h1, r1⟩ := trodAll_cons r0
  obtain ⟨rfl, rfl, rfl⟩ := trodAll_nil r1
  obtain rfl : args = #[v0, v1] := by cases args; simp_all
  obtain ⟨rfl, rfl⟩ := trodVars_none hV
  obtain ⟨s, rfl, rfl, rfl, hs⟩ := open_string Tryz.underlying9 (hval 0 9 v0 rfl rfl) h0
  obtain ⟨n, rfl, rfl, rfl, hw⟩ := open_int Tryz.underlying3 (hval 1 3 v1 rfl rfl) h1
  clear hA0
  simp only [List.append_nil] at hW'
  obtain ⟨g, gl, gp, hG⟩ := glN_of_laid (W := W) hL
  have hs' : s.size ≤ 9223372036854775807 := hs
  refine (hfn s n W hs' W.heap.size g gl gp hG).mono fun e W' ⟨he, hg⟩ => ?_
  subst he
  exact ⟨_, rfl, post_of_new hW' (fun _ _ _ => trodAll_cons_mk (shut_bool Tryz.underlying4 _) trodAll_mk0) (fun _ => trodAll_cons_mk (shut_string Tryz.underlying9 hs) (trodAll_cons_mk (shut_int Tryz.underlying3 hw) trodAll_mk0)) (fun _ => rfl) hg
    (ok_one (by kernel_rfl) rfl (okWide_bool_mk Tryz.underlying4 _))⟩

theorem reads (os : Os) {H : Type} (enc : TypeId × Value → H) : ∃ places, DataW.whole enc Tryz.prog ((laidWorld os).forCall (fun _ _ => 0) ⟨#[], #[.string ByteArray.empty, .int .i64 0], []⟩).memory Tryz.f4.params.toList Rows.fnMultiPolygonBodySpec.vars false #[Value.string ByteArray.empty, Value.int .i64 0].toList 8 = some ([.lit (.string []), .lit (.int .i64 0)], [], places) :=
  ⟨[], by kernel_rfl⟩

theorem lifted (hfn : Walk) (os : Os) (started : os.Started) (H : Type) (enc : TypeId × Value → H) (F : Stop.Interp) :
    ReturnsInHanded {} Tryz.checked os 4 .any ((OpenSpec.ofChange Rows.fnMultiPolygonBodySpec).preRow enc Tryz.prog Tryz.f4 Rows.fnMultiPolygonBodyRow.domain false Rows.fnMultiPolygonBodyRow.laid) (((OpenSpec.ofChange Rows.fnMultiPolygonBodySpec).at F).post enc Tryz.prog Tryz.f4 false true false false) := by
  obtain ⟨places, hx⟩ := reads os enc
  have hok : Input.okWideB Tryz.prog ((laidWorld os).forCall (fun _ _ => 0) ⟨#[], #[.string ByteArray.empty, .int .i64 0], []⟩) 4 ⟨#[], #[.string ByteArray.empty, .int .i64 0], []⟩ = true := by kernel_rfl
  refine returnsInHanded_of_row (C := Tryz.checked) (s := OpenSpec.ofChange Rows.fnMultiPolygonBodySpec) own started (by kernel_rfl) Tryz.func4
    ⟨laidWorld os, fun _ _ => 0, ⟨#[], #[.string ByteArray.empty, .int .i64 0], []⟩, World.laidAll_os _ _ _, laid_shaped os _, (Input.okWide_of_okWideB (base := 0) hok).1, (Input.okWide_of_okWideB hok).2,
      OpenSpec.preRow_of_cond 8 hx (by kernel_rfl) (fun k hk => by cases hk) (by kernel_rfl) (laid_met os _), by simp [Assume.holds]⟩ ?_
  intro W base args ds gs before hval hW _ _ _ hL _ _
  exact contract hfn H enc W base args ds gs before hval hW hL

theorem said (hfn : Walk) : Rows.FnMultiPolygonBodySaid :=
  OpenClaim.holds_of_cond 4 Tryz.f4 rfl rfl rfl rfl rfl rfl rfl ⟨rfl, rfl, rfl, rfl, rfl⟩ rfl rfl rfl rfl rfl (by kernel_rfl) Tryz.func4 (by kernel_rfl)
    (of_decide_eq_true (by kernel_rfl)) (by unfold Func.isWrapper; first | (rw [if_pos (by decide +kernel)]; kernel_rfl) | (rw [if_neg (by decide +kernel)]; exact ⟨rfl, rfl⟩))
    (fun os started H enc _ F => by rw [OpenClaim.pre_eq_preRow]; exact lifted hfn os started H enc F)

/-- No parameter wants a stand-in; the program's own looks are off: what the card asks. -/
theorem plain (f : FuncId) (fn : Func) (hf : Tryz.pinned.checked.prog.funcNamed "pub-alidade/laws.FnMultiPolygonBody" = some f) (hfn : Tryz.pinned.checked.prog.funcs[f]? = some fn) :
    true = Tryz.pinned.checked.prog.looks [] ∧ ∀ (j : Nat) t, fn.params[j]? = some t → Tryz.pinned.checked.prog.wantsStandIn t = false := by
  obtain rfl : f = 4 := Option.some.inj ((show Tryz.prog.funcNamed "pub-alidade/laws.FnMultiPolygonBody" = some 4 by kernel_rfl).symm.trans hf) |>.symm
  obtain rfl : fn = Tryz.f4 := (Option.some.inj (Tryz.func4.symm.trans hfn)).symm
  refine ⟨by kernel_rfl, fun j t ht => ?_⟩
  rw [Tryz.params4] at ht
  have hm := Array.mem_of_getElem? ht
  simp only [Array.mem_def, List.mem_cons, List.not_mem_nil, or_false] at hm
  rcases hm with rfl | rfl
  · exact (show Tryz.prog.wantsStandIn 9 = false by kernel_rfl)
  · exact (show Tryz.prog.wantsStandIn 3 = false by kernel_rfl)

theorem card_of (hfn : Walk) : Rows.FnMultiPolygonBodyCardSaid :=
  Claim7.holds_tied_plain_at .later [] _ _ _ _ (said hfn) (fun _ h => by cases h) (by kernel_rfl) (fun _ h => by cases h) fnMultiPolygonBody_row_tie rfl ⟨rfl, rfl⟩ (by kernel_rfl) rfl plain (by kernel_rfl)
end Go.Proofs.YtblpcpkkjbkakaaGreatDoor.fnMultiPolygonBody
