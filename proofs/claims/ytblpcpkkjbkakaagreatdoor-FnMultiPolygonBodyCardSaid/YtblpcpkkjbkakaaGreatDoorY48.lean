/- Lemmas towards the seat's laws: 5 texts joined. -/
import Derived.Test.YtblpcpkkjbkakaaGreatDoorY47
import Derived.Laws.OwnMore
/- The parser's reading of a polygon's rings. -/
namespace Go.Proofs.YtblpcpkkjbkakaaGreatDoor
open Go Go.RowKit
set_option linter.unusedVariables false
set_option linter.unusedSimpArgs false

/-- Where parts may lie: from base on, below the heap's end, not in the row of parts. -/
def Fp (base H : Nat) (v : Value) (k : Nat) : Prop := base ≤ k ∧ k < H ∧ v.ownBlock ≠ some k
/-- Parts one behind another in a row. -/
def ParLp {α : Type} (R : (Nat → Prop) → World → List Value → α → Prop) (e base : Nat) (l : List α) (v : Value) (wr : World) : Prop :=
  ∃ ccs, wr.ownsRow base e 2 v l.length ccs.flatten ∧ All2 (R (Fp base wr.heap.size v) wr) ccs l
theorem ParLp.nil {α : Type} (R : (Nat → Prop) → World → List Value → α → Prop) (e base : Nat) (wr : World) : ParLp R e base [] (.slice none 0 0) wr := ⟨[], World.ownsRow_nil _ _ _ _, trivial⟩
theorem ParLp.fr {α : Type} {R : (Nat → Prop) → World → List Value → α → Prop} (hR : Rep2 R) {e base B b rb : Nat} {l : List α} {v : Value} {w w' : World} (h : ParLp R e base l v w) (hf : Fr B b rb w w') (hb : b < base) (hr : rb < base) (he : e ≠ 5) : ParLp R e base l v w' := by
  obtain ⟨ccs, h1, h2⟩ := h
  refine ⟨ccs, own_fr h1 hf hb hr he, All2.imp (fun c y hcy => ?_) h2⟩
  have hs := hf.1.size
  exact hR.mono _ _ _ _ _ (hR.keep _ w w' _ _ hcy fun k o hk ho h5 => hf.2 k o ho (by have := hk.1; omega) (by have := hk.1; omega) h5) fun k hk => ⟨hk.1, by have := hk.2.1; omega, hk.2.2⟩
theorem ParLp.old {α : Type} {R : (Nat → Prop) → World → List Value → α → Prop} (hR : Rep2 R) {e base : Nat} {l : List α} {v : Value} {w w' : World} (h : ParLp R e base l v w) (hb : Below w.heap.size w w') : ParLp R e base l v w' := by
  obtain ⟨ccs, h1, h2⟩ := h
  refine ⟨ccs, ownsRow_keep h1 fun k _ hl => hb.block k hl, All2.imp (fun c y hcy => ?_) h2⟩
  have hs := hb.size
  exact hR.mono _ _ _ _ _ (hR.keep _ w w' _ _ hcy fun k o hk ho _ => (hb.block k (Array.getElem?_eq_some_iff.1 ho).1).trans ho) fun k hk => ⟨hk.1, by have := hk.2.1; omega, hk.2.2⟩
/-- A part more; it was made after the row. -/
theorem ParLp.app {α : Type} {R : (Nat → Prop) → World → List Value → α → Prop} (hR : Rep2 R) {e base m : Nat} {l : List α} {v : Value} {wr w4 : World} {x : α} {cs : List Value} {g3 cap : Nat} {ccs : List (List Value)}
    (h1 : wr.ownsRow base e 2 v l.length ccs.flatten) (h2 : All2 (R (Fp base wr.heap.size v) wr) ccs l) (hx : R (fun k => m ≤ k) wr cs x) (hbm : base ≤ m) (hvm : ∀ g, v.ownBlock = some g → g < m)
    (hown : w4.ownsRow base e 2 (.slice (some ⟨g3, 0, none⟩) (l.length + 1) cap) (l.length + 1) (ccs.flatten ++ cs)) (hg4 : (wr.alloc (.cells ⟨cs⟩ e)).grownBy w4 v.ownBlock) (hat : v.ownBlock = some g3 ∨ g3 = wr.heap.size + 1) :
    ParLp R e base (l ++ [x]) (.slice (some ⟨g3, 0, none⟩) (l.length + 1) cap) w4 := by
  have hal : (wr.alloc (.cells ⟨cs⟩ e)).heap.size = wr.heap.size + 1 := by simp
  have hsz4 := hg4.size
  rw [hal] at hsz4
  have hk3 : ∀ k, k < wr.heap.size → v.ownBlock ≠ some k → w4.heap[k]? = wr.heap[k]? := fun k hk hne => (hg4.block k (by omega) (fun e => hne e.symm)).trans (Below.heap_alloc _ _ _ hk)
  have hgg : ∀ k, v.ownBlock ≠ some k → k < wr.heap.size → k ≠ g3 := by
    intro k h1 h2
    rcases hat with h | h
    · intro e; rw [e] at h1; exact h1 h
    · omega
  have hob : (Value.slice (some ⟨g3, 0, none⟩) (l.length + 1) cap).ownBlock = some g3 := rfl
  refine ⟨ccs ++ [cs], ?_, All2.snoc ?_ (All2.imp (fun c y hcy => ?_) h2)⟩
  · rw [List.length_append, List.length_singleton]
    simpa using hown
  · have hn := hR.nar _ _ _ _ hx
    refine hR.mono _ _ _ _ _ (hR.keep _ wr w4 _ _ hn fun k o hk ho _ => (hk3 k hk.2 (fun e => by have := hvm _ e; omega)).trans ho) fun k hk => ?_
    refine ⟨by omega, by omega, ?_⟩
    rw [hob]
    intro e
    exact hgg k (fun e => by have := hvm _ e; omega) hk.2 (Option.some.inj e).symm
  · refine hR.mono _ _ _ _ _ (hR.keep _ wr w4 _ _ hcy fun k o hk ho _ => (hk3 k hk.2.1 hk.2.2).trans ho) fun k hk => ?_
    refine ⟨hk.1, by have := hk.2.1; omega, ?_⟩
    rw [hob]
    intro e
    exact hgg k hk.2.2 hk.2.1 (Option.some.inj e).symm
theorem own_new2 {base e : Nat} {w : World} {x y : Value} {g : Nat} (h : Rw g #[x, y] e w) (hb : base ≤ g) : w.ownsRow base e 2 (.slice (some ⟨g, 0, none⟩) 1 1) 1 [x, y] :=
  ⟨rfl, .inr ⟨g, 1, _, rfl, hb, h, Nat.le_refl _, by decide, rfl, rfl⟩⟩
/-- The first part, in a new row. -/
theorem ParLp.first {α : Type} {R : (Nat → Prop) → World → List Value → α → Prop} (hR : Rep2 R) {e base m : Nat} {wr : World} {a c : Value} {x : α} (hx : R (fun k => m ≤ k) wr [a, c] x) (hbm : base ≤ m) (hs : base ≤ wr.heap.size) :
    ParLp R e base [x] (.slice (some ⟨wr.heap.size, 0, none⟩) 1 1) (wr.alloc (.cells #[a, c] e)) := by
  refine ⟨[[a, c]], own_new2 (Rw.new _ _ _) hs, ⟨?_, trivial⟩⟩
  have hn := hR.nar _ _ _ _ hx
  refine hR.mono _ _ _ _ _ (hR.keep _ wr _ _ _ hn fun k o hk ho _ => (Below.heap_alloc _ _ _ hk.2).trans ho) fun k hk => ⟨by omega, by simp; omega, ?_⟩
  show some wr.heap.size ≠ some k
  intro e
  have := Option.some.inj e
  omega
/-- A row of parts that is done. -/
def RowS {α : Type} (R : (Nat → Prop) → World → List Value → α → Prop) (e : Nat) (F : Nat → Prop) (w : World) (v : Value) (l : List α) : Prop :=
  ∃ ccs, w.ownsRow 0 e 2 v l.length ccs.flatten ∧ (∀ k, v.ownBlock = some k → F k) ∧ All2 (R F w) ccs l ∧ l.length ≤ 100000
theorem ParLp.done {α : Type} {R : (Nat → Prop) → World → List Value → α → Prop} (hR : Rep2 R) {e base : Nat} {l : List α} {v : Value} {w : World} (h : ParLp R e base l v w) (hl : l.length ≤ 100000) : RowS R e (fun k => base ≤ k) w v l := by
  obtain ⟨ccs, h1, h2⟩ := h
  exact ⟨ccs, ownsRow_zero h1, fun k hk => (h1.lt k hk).1, All2.imp (fun c y hcy => hR.mono _ _ _ _ _ hcy fun k hk => hk.1) h2, hl⟩
theorem cells_two' (w : World) (x y : Value) (t : TypeId) (N : Nat) (hN : w.heap.size = N) : ∀ j u, [x, y][j]? = some u → (w.alloc (.cells #[x, y] t)).cell? ((⟨N, 0, none⟩ : Addr).add j) = some u := by
  subst hN; exact cells_lit2 w x y t
theorem LSc.form {d : Nat} {F : Nat → Prop} {w : World} {cs : List Value} {x : List Nat} (h : LSc d F w cs x) : ∃ a n c, cs = [.int .u8 d, .slice a n c] := by
  obtain ⟨v, rfl, h, -⟩ := h
  obtain ⟨a, n, c, rfl⟩ := ownsRow_slice h
  exact ⟨_, _, _, rfl⟩
theorem SKc.form {α : Type} {R : (Nat → Prop) → World → List Value → α → Prop} {e d : Nat} {F : Nat → Prop} {w : World} {cs : List Value} {x : List α} (h : SKc R e d F w cs x) : ∃ a n c, cs = [.slice a n c, .int .u8 d] := by
  obtain ⟨v, ccs, rfl, h, -⟩ := h
  obtain ⟨a, n, c, rfl⟩ := ownsRow_slice h
  exact ⟨_, _, _, rfl⟩
theorem info126 : (Tryz.prog.info? 126).map (fun i => (i.zero, i.size, i.bytes)) = some (some (.agg #[.int .u8 0, .slice none 0 0]), 2, 32) := by kernel_rfl
theorem info81 : (Tryz.prog.info? 81).map (fun i => (i.zero, i.size, i.bytes)) = some (some (.agg #[.slice none 0 0, .int .u8 0]), 2, 32) := by kernel_rfl
/-- The loop over parts in the parser. -/
def PrLp {α : Type} (R : (Nat → Prop) → World → List Value → α → Prop) (f : List Tok → Option (α × List Tok)) (e : Nat) (s : ByteArray) (rb B b base : Nat) (T : List Tok) (w : World) (k : Nat) (v : Value) (wx : World) : Prop :=
  ∃ l Tj pj, Tj.length = k ∧ CtRel f (bodyP f T) l Tj ∧ ParLp R e base l v wx ∧ PT s rb B b pj Tj wx ∧ Fb base B b rb w wx ∧ base ≤ wx.heap.size ∧ l.length + k ≤ T.length
theorem PrLp.next {α : Type} {R : (Nat → Prop) → World → List Value → α → Prop} {f : List Tok → Option (α × List Tok)} (hR : Rep2 R) {e : Nat} (he : e ≠ 5) {s : ByteArray} {rb B b base m p : Nat} {T T6 : List Tok} {w W7 w4 : World} {l : List α} {v : Value} {x : α} {cs : List Value} {g3 cap : Nat} {ccs : List (List Value)}
    (h1 : W7.ownsRow base e 2 v l.length ccs.flatten) (h2 : All2 (R (Fp base W7.heap.size v) W7) ccs l) (hx : R (fun k => m ≤ k) W7 cs x) (hbm : base ≤ m) (hvm : ∀ g, v.ownBlock = some g → g < m) (hpt : PT s rb B b p T6 W7) (hfb : Fb base B b rb w W7) (hbs : base ≤ W7.heap.size) (hbb : b < base) (hrb : rb < base) (hB : B ≤ base)
    (hct : CtRel f (bodyP f T) (l ++ [x]) T6) (hlk : l.length + 1 + T6.length ≤ T.length)
    (hown : w4.ownsRow base e 2 (.slice (some ⟨g3, 0, none⟩) (l.length + 1) cap) (l.length + 1) (ccs.flatten ++ cs)) (hg4 : (W7.alloc (.cells ⟨cs⟩ e)).grownBy w4 v.ownBlock) (hat : v.ownBlock = some g3 ∨ g3 = W7.heap.size + 1) :
    PrLp R f e s rb B b base T w T6.length (.slice (some ⟨g3, 0, none⟩) (l.length + 1) cap) w4 := by
  have hal : Below W7.heap.size W7 (W7.alloc (.cells ⟨cs⟩ e)) := (Below.refl _ _).alloc (Nat.le_refl _) _
  have hals : (W7.alloc (.cells ⟨cs⟩ e)).heap.size = W7.heap.size + 1 := by simp
  have hrow : ∀ k, v.ownBlock = some k → base ≤ k := fun k hk => (h1.lt k hk).1
  refine ⟨l ++ [x], T6, p, rfl, hct, ParLp.app hR h1 h2 hx hbm hvm hown hg4 hat, (hpt.old hal).grown hg4 fun k hk => ?_, (hfb.old hal hB hbs).grown hg4 hB (by omega) hrow, by have := hg4.size; omega, by simp; omega⟩
  obtain ⟨cc, fz, hh⟩ := own_typ (h1.alloc (.cells ⟨cs⟩ e)) hk
  have := hrow k hk
  exact ⟨⟨by omega, by omega⟩, cc, fz, _, hh, he⟩
/-- The outcome of the parser's reading of a row of parts. -/
def RlPost {α : Type} (R : (Nat → Prop) → World → List Value → α → Prop) (e : Nat) (X : Option (List α × List Tok)) (s : ByteArray) (rb B b : Nat) (w : World) (en : Ending) (w' : World) : Prop :=
  ∃ v err, en = .returned (.tuple #[v, err]) ∧ (∃ a n c, v = .slice a n c) ∧ ((∃ l T', X = some (l, T') ∧ err = .nilIface ∧ RowS R e (fun k => w.heap.size ≤ k) w' v l ∧ ∃ p', PT s rb B b p' T' w') ∨ (X = none ∧ ∃ u y, err = .iface u y)) ∧ Fr B b rb w w'
set_option maxRecDepth 100000 in
set_option maxHeartbeats 4000000 in
theorem rings_pt (s : ByteArray) (rb B b p d : Nat) (g gl gp : Nat × Nat) (T : List Tok) (w : World) (hs : s.size ≤ 2000) (hd : d < 4) (h : PT s rb B b p T w) (hG : GlN B g gl gp w) (hT : T.length ≤ 99999) :
    Calls Tryz.prog 80 #[.pointer (some ⟨b, 0, none⟩), .int .u8 d] w (RlPost (LSc d) 126 (polyP d T) s rb B b w) := by
  obtain ⟨i0, hi, hz0, hz1, hz2⟩ := info_parts info126
  obtain ⟨hlb1, hlb2, hlb3, hlb4, hlb5⟩ := h.lt
  have hem := empty_pt s rb B b p g gl gp T _ h hG
  have HH := Lib.hid (And.intro hem (And.intro hG (And.intro h.ok (And.intro hlb2 (And.intro hlb3 (Nat.le_trans hlb1 (Nat.le_of_lt hlb2)))))))
  clear h hG hem hlb1 hlb2 hlb3 hlb4 hlb5
  obtain ⟨base, hbase⟩ : ∃ base, base = w.heap.size := ⟨_, rfl⟩
  have HB := Lib.hid hbase; clear hbase
  go_enter Tryz.func80, Tryz.ntmps80
  go_upto_region 2 with (go_at_call 56; refine HH.out.1.mono ?_; rintro e w1 ⟨x, v, rfl, hk, hfr⟩)
  rcases hk with ⟨rfl, t, T1, hTt, rfl, htx, p1, hpt⟩ | ⟨⟨u, y, rfl⟩, hno⟩
  · have hG1 := HH.out.2.1.keep hfr.1
    have htok := HH.out.2.2.1 t (by rw [hTt]; exact List.mem_cons_self ..)
    have hT1 : T1.length ≤ 99999 := by rw [hTt] at hT; simp at hT; omega
    have hln := line_pt s rb B b p1 d g gl gp T1 w1 hs hd hpt hG1 hT1
    have H1 := Lib.hid (And.intro hfr (And.intro hpt (And.intro hln (And.intro hTt (And.intro htok hpt.ok)))))
    have HTX := Lib.hid htx
    clear hfr hpt hG1 hTt htok htx hln hT1
    rcases HTX.out with he | h40
    · have hb : (t.2 == [69, 77, 80, 84, 89]) = true := by rw [he]; rfl
      have HE := Lib.hid he; clear he
      go_wp2_with fail
      go_ret2
      obtain ⟨h1, h2, h3, h4, h5, h6⟩ := H1.out
      refine ⟨_, _, rfl, ⟨_, _, _, rfl⟩, .inl ⟨[], T1, by rw [h4]; exact bodyP_empty (tok_emptyW h5 HE.out) HE.out, rfl, ⟨[], World.ownsRow_nil _ _ _ _, (fun k hk => by cases hk), trivial, Nat.zero_le _⟩, p1, h2⟩, h1⟩
    · have hb : (t.2 == [69, 77, 80, 84, 89]) = false := by rw [h40]; rfl
      have h4 : t.1 = 40 := tok_text H1.out.2.2.2.2.1 (.inl rfl) h40
      have HE := Lib.hid h4; clear h40 h4
      go_upto_region 7 with (go_at_call 105; refine H1.out.2.2.1.mono ?_; rintro e w2 ⟨cs, err, rfl, hk, hfr2⟩; rcases hk with ⟨xs, T2, hln, rfl, hR, p2, hpt2⟩ | ⟨hln, rfl, u, y, rfl⟩; obtain ⟨a1, n1, c1, rfl⟩ := hR.form)
      · have hb1 : w.heap.size ≤ w1.heap.size := H1.out.1.1.size
        have hb2 : w1.heap.size ≤ w2.heap.size := hfr2.1.size
        have hal : Below w2.heap.size w2 (w2.alloc (.cells #[.int .u8 d, .slice a1 n1 c1] 126)) := (Below.refl _ _).alloc (Nat.le_refl _) _
        have hal2 : Below w2.heap.size w2 ((w2.alloc (.cells #[.int .u8 d, .slice a1 n1 c1] 126)).alloc (.cells #[.int .u8 d, .slice a1 n1 c1] 126)) := below2 _ _ _
        have hll := Loc.len (lineP_loc d) H1.out.2.2.2.2.2 hln
        have hlp : PrLp (LSc d) (lineP d) 126 s rb B b base T w T2.length (.slice (some ⟨w2.heap.size + 1, 0, none⟩) 1 1) ((w2.alloc (.cells #[.int .u8 d, .slice a1 n1 c1] 126)).alloc (.cells #[.int .u8 d, .slice a1 n1 c1] 126)) := by
          have hB := HH.out.2.2.2.2.2
          refine ⟨[xs], T2, p2, rfl, ?_, ?_, hpt2.old hal2, ?_, ?_, ?_⟩
          · rw [H1.out.2.2.2.1]; exact CtRel.start (lineP_nil d) HE.out hln hll.1
          · have hx := (LSc.rep d).keep _ w2 (w2.alloc (.cells #[.int .u8 d, .slice a1 n1 c1] 126)) _ _ hR fun k o _ ho _ => (hal.block k (Array.getElem?_eq_some_iff.1 ho).1).trans ho
            have := ParLp.first (LSc.rep d) (e := 126) (base := base) hx (by rw [HB.out]; exact hb1) (by rw [HB.out]; simp; omega)
            simpa using this
          · exact ((Fb.ofFr H1.out.1).trans (Fb.ofFr hfr2)).old hal2 (by rw [HB.out]; exact hB) (by rw [HB.out]; omega)
          · rw [HB.out]; simp; omega
          · rw [H1.out.2.2.2.1]; have := hll.1; simp; omega
        have HL := Lib.hid hlp
        clear hlp hll hal hal2 hb1 hb2 hln hR hpt2 hfr2
        generalize T2.length = n0 at HL
        go_wp2_with fail
        go_loopg [9] n0 (fun k v wr => RowKit.Hid (PrLp (LSc d) (lineP d) 126 s rb B b base T w k v wr))
        case atStart => exact HL
        case round =>
          obtain ⟨l, Tj, pj, hk, hct, hpar, hpt, hfb, hbs, hlk⟩ := hrel.out
          have hG2 := HH.out.2.1.keep hfb.1
          have hcm := comma_pt s rb B b pj g gl gp Tj wr hpt hG2
          have HS := Lib.hid (And.intro hk (And.intro hct (And.intro hpar (And.intro hfb (And.intro hbs (And.intro hlk hpt.ok))))))
          have HC := Lib.hid hcm
          clear hk hct hpar hpt hfb hbs hlk hG2 hcm hrel
          go_upto_region 11 with (go_at_call 58; refine HC.out.mono ?_; rintro e w5 ⟨x, v, rfl, hk, hfr⟩)
          have hbb : b < base := by rw [HB.out]; exact HH.out.2.2.2.1
          have hrb : rb < base := by rw [HB.out]; exact HH.out.2.2.2.2.1
          have hBb : B ≤ base := by rw [HB.out]; exact HH.out.2.2.2.2.2
          have hpar5 := HS.out.2.2.1.fr (LSc.rep d) hfr hbb hrb (by decide)
          have hfb5 := HS.out.2.2.2.1.trans (Fb.ofFr hfr)
          have hbs5 : base ≤ w5.heap.size := Nat.le_trans HS.out.2.2.2.2.1 hfr.1.size
          clear hfr
          rcases hk with ⟨rfl, t5, T5, hTt, rfl, htx, p5, hpt5⟩ | ⟨⟨u, y, rfl⟩, hno⟩
          · have htok := HS.out.2.2.2.2.2.2 t5 (by rw [hTt]; exact List.mem_cons_self ..)
            have HTX := Lib.hid htx
            have H5 := Lib.hid (And.intro hpar5 (And.intro hfb5 (And.intro hpt5 (And.intro hTt (And.intro htok hbs5)))))
            clear hpar5 hfb5 hbs5 hpt5 hTt htok htx
            rcases HTX.out with h41 | h44
            · have hb : (t5.2 == [44]) = false := by rw [h41]; rfl
              have h4 : t5.1 = 41 := tok_text H5.out.2.2.2.2.1 (.inr (.inl rfl)) h41
              have hX : polyP d T = some (l, T5) := CtRel.fin (by have := HS.out.2.1; rw [H5.out.2.2.2.1] at this; exact this) h4
              have HX := Lib.hid hX; clear hX h4 h41
              obtain ⟨ccs, hown, hA⟩ := H5.out.1
              obtain ⟨a6, c6, rfl, -⟩ := row_slice hown
              clear hown hA
              go_wp2_with fail
              go_ret2
              refine ⟨_, _, rfl, ⟨_, _, _, rfl⟩, .inl ⟨l, T5, HX.out, rfl, ?_, p5, H5.out.2.2.1⟩, ?_⟩
              · have := H5.out.1.done (LSc.rep d) (by have := HS.out.2.2.2.2.2.1; omega)
                rw [HB.out] at this
                exact this
              · have := H5.out.2.1
                rw [HB.out] at this
                exact this.fr
            · have hb : (t5.2 == [44]) = true := by rw [h44]; rfl
              have h4 : t5.1 = 44 := tok_text H5.out.2.2.2.2.1 (.inr (.inr rfl)) h44
              have hct := HS.out.2.1
              rw [H5.out.2.2.2.1] at hct
              have hTj : Tj.length = T5.length + 1 := by rw [H5.out.2.2.2.1]; rfl
              have hT5 : T5.length ≤ 99999 := by have := HS.out.1; have := HS.out.2.2.2.2.2.1; omega
              have hln := line_pt s rb B b p5 d g gl gp T5 w5 hs hd H5.out.2.2.1 (HH.out.2.1.keep H5.out.2.1.1) hT5
              have HE2 := Lib.hid (And.intro h4 (And.intro hct (And.intro hln (And.intro hTj H5.out.2.2.1.ok)))); clear h44 h4 hct hln hTj hT5
              go_upto_region 15 with (go_at_call 105; refine HE2.out.2.2.1.mono ?_; rintro e w6 ⟨cs, err, rfl, hk, hfr6⟩; rcases hk with ⟨xs6, T6, hln6, rfl, hR6, p6, hpt6⟩ | ⟨hln6, rfl, u, y, rfl⟩; obtain ⟨a7, n7, c7, rfl⟩ := hR6.form)
              · have hll := Loc.len (lineP_loc d) HE2.out.2.2.2.2 hln6
                have hs6 := hfr6.1.size
                have hvm : ∀ g, u9.ownBlock = some g → g < w5.heap.size := fun g hg => by
                  obtain ⟨ccs0, ho, -⟩ := H5.out.1
                  exact (ho.lt g hg).2
                obtain ⟨W7, hW7⟩ : ∃ W7, W7 = w6.alloc (.cells #[.int .u8 d, .slice a7 n7 c7] 126) := ⟨_, rfl⟩
                have hal7 : Below w6.heap.size w6 W7 := by rw [hW7]; exact (Below.refl _ _).alloc (Nat.le_refl _) _
                have hM7 : Rw w6.heap.size #[.int .u8 d, .slice a7 n7 c7] 126 W7 := by rw [hW7]; exact Rw.new _ _ _
                rw [← hW7]
                clear hW7
                have m0 : W7.cell? ⟨w6.heap.size, 0, none⟩ = some (.int .u8 d) := hM7.cell 0 rfl
                have m1 : W7.cell? ⟨w6.heap.size, 1, none⟩ = some (.slice a7 n7 c7) := hM7.cell 1 rfl
                obtain ⟨ccs, hown, hA⟩ := (H5.out.1.fr (LSc.rep d) hfr6 hbb hrb (by decide)).old (LSc.rep d) hal7
                have hx7 := (LSc.rep d).keep _ w6 W7 _ _ hR6 fun k o _ ho _ => (hal7.block k (Array.getElem?_eq_some_iff.1 ho).1).trans ho
                have hbs6 : base ≤ w6.heap.size := Nat.le_trans H5.out.2.2.2.2.2 hs6
                have hfb7 := (H5.out.2.1.trans (Fb.ofFr hfr6)).old hal7 hBb hbs6
                have hbs7 : base ≤ W7.heap.size := Nat.le_trans hbs6 hal7.size
                have hpt7 := hpt6.old hal7
                have hct7 := CtRel.comma (lineP_nil d) HE2.out.2.1 HE2.out.1 hln6 hll.1
                have hlk7 : l.length + 1 + T6.length ≤ T.length := by have h1 := HS.out.2.2.2.2.2.1; have h2 := HS.out.1; have h3 := HE2.out.2.2.2.1; have h4 := hll.1; omega
                have hl7 : l.length ≤ 100000 := by omega
                have H7 := Lib.hid (And.intro hown (And.intro hA (And.intro hx7 (And.intro hvm (And.intro hpt7 (And.intro hfb7 (And.intro hbs7 (And.intro hct7 (And.intro hlk7 hll.1)))))))))
                clear hown hA hx7 hvm hpt7 hfb7 hbs7 hct7 hlk7 hll hM7 hal7 hs6 hbs6 hfr6 hpt6 hR6 hln6
                go_wp2_with (at_builtin; refine wpList_append_lies _ rfl _ _ 79 rfl base 126 i0 _ 2 32 Tryz.underlying79 hi hz0 hz1 hz2 rfl (by decide) u9 l.length ccs.flatten rfl (H7.out.1.alloc _) ⟨W7.heap.size, 0, none⟩ 1 1 [_, _] rfl rfl (cells_two' _ _ _ _ _ rfl) (by intro u hu; simp at hu; rcases hu with rfl | rfl <;> rfl) (by omega) (by unfold maxLen; omega) (by omega) (by have := H7.out.2.2.2.2.2.2.1; simp; omega) (W7.heap.size + 1) (by simp) ?_; intro g3 cap w8 hown8 hg8 hat8 hlt8)
                go_roundg T6.length
                case rel =>
                  obtain ⟨r1, r2, r3, r4, r5, r6, r7, r8, r9, r10⟩ := H7.out
                  exact Lib.hid (PrLp.next (LSc.rep d) (by decide) r1 r2 r3 H5.out.2.2.2.2.2 r4 r5 r6 r7 hbb hrb hBb r8 r9 hown8 hg8 hat8)
                case measure =>
                  have h1 := H7.out.2.2.2.2.2.2.2.2.2
                  have h2 := HS.out.1
                  have h3 := HE2.out.2.2.2.1
                  omega
              · have hfb6 := H5.out.2.1.trans (Fb.ofFr hfr6)
                have hbs6 : base ≤ w6.heap.size := Nat.le_trans H5.out.2.2.2.2.2 hfr6.1.size
                have H6 := Lib.hid (And.intro hfb6 hln6)
                clear hfb6 hfr6 hln6
                go_wp2_with fail
                go_ret2
                refine ⟨_, _, rfl, ⟨_, _, _, rfl⟩, .inr ⟨CtRel.bad HE2.out.2.1 HE2.out.1 H6.out.2, _, _, rfl⟩, ?_⟩
                have := (H6.out.1.old (w2 := w6.alloc (.cells #[.int .u8 0, .slice none 0 0] 126)) ((Below.refl _ _).alloc (Nat.le_refl _) _) hBb hbs6)
                rw [HB.out] at this
                exact this.fr
          · have H2 := Lib.hid (And.intro hfb5 hno); clear hpar5 hfb5 hno
            go_wp2_with fail
            go_ret2
            refine ⟨_, _, rfl, ⟨_, _, _, rfl⟩, .inr ⟨CtRel.none HS.out.2.1 fun t T' hT => ?_, _, _, rfl⟩, ?_⟩
            · obtain ⟨n1, n2⟩ := H2.out.2 t T' hT
              have ho := HS.out.2.2.2.2.2.2 t (by rw [hT]; exact List.mem_cons_self ..)
              exact ⟨fun e => n1 (tok_sign ho e (by decide) (by decide)), fun e => n2 (tok_sign ho e (by decide) (by decide))⟩
            · have := H2.out.1
              rw [HB.out] at this
              exact this.fr
      · have H2 := Lib.hid (And.intro hfr2 hln); clear hfr2 hln
        go_wp2_with fail
        go_ret2
        refine ⟨_, _, rfl, ⟨_, _, _, rfl⟩, .inr ⟨?_, _, _, rfl⟩, ?_⟩
        · rw [H1.out.2.2.2.1]
          exact bodyP_bad HE.out H2.out.2
        · exact (H1.out.1.trans H2.out.1).trans (Fr.ofOld ((Below.refl _ _).alloc (Nat.le_refl _) _) (by have := H1.out.1.1.size; have := H2.out.1.1.size; have := HH.out.2.2.2.2.2; omega))
  · have H2 := Lib.hid (And.intro hfr hno); clear hfr hno
    go_wp2_with fail
    go_ret2
    refine ⟨_, _, rfl, ⟨_, _, _, rfl⟩, .inr ⟨bodyP_not fun t T' hT => ?_, _, _, rfl⟩, H2.out.1⟩
    obtain ⟨n1, n2⟩ := H2.out.2 t T' hT
    exact ⟨n1, fun e => n2 (tok_sign (HH.out.2.2.1 t (by rw [hT]; exact List.mem_cons_self ..)) e (by decide) (by decide))⟩
end Go.Proofs.YtblpcpkkjbkakaaGreatDoor
/- Polygons of one type of coordinates: forcing the type changes nothing but makes the row anew. -/
namespace Go.Proofs.YtblpcpkkjbkakaaGreatDoor
open Go Go.RowKit
set_option linter.unusedVariables false
set_option linter.unusedSimpArgs false

theorem flat_set2 : ∀ (ys : List (List Value)) (j : Nat) (a b : Value), (∀ c ∈ ys, c.length = 2) → j < ys.length → (ys.flatten.set (j * 2) a).set (j * 2 + 1) b = (ys.set j [a, b]).flatten
  | [], j, a, b, _, h => by simp at h
  | c :: ys, 0, a, b, hl, _ => by
    have hc := hl c (List.mem_cons_self ..)
    match c, hc with
    | [x, y], _ => simp
  | c :: ys, j + 1, a, b, hl, h => by
    have hc := hl c (List.mem_cons_self ..)
    have ih := flat_set2 ys j a b (fun c hc => hl c (List.mem_cons_of_mem _ hc)) (by simpa using h)
    match c, hc with
    | [x, y], _ =>
      simp only [List.flatten_cons, List.set_cons_succ, List.cons_append, List.nil_append]
      rw [show (j + 1) * 2 = j * 2 + 1 + 1 by omega, List.set_cons_succ, List.set_cons_succ, List.set_cons_succ, List.set_cons_succ, ih]
theorem row_set2 {base e n g cap : Nat} {w : World} {ys : List (List Value)} (h : w.ownsRow base e 2 (.slice (some ⟨g, 0, none⟩) n cap) n ys.flatten) (hl : ∀ c ∈ ys, c.length = 2) (j : Nat) (hj : j < ys.length) (a b : Value) :
    ((w.setCell ⟨g, j * 2, none⟩ a).setCell ⟨g, j * 2 + 1, none⟩ b).ownsRow base e 2 (.slice (some ⟨g, 0, none⟩) n cap) n (ys.set j [a, b]).flatten := by
  rw [← flat_set2 ys j a b hl hj]
  exact ((h.stored (j * 2) a).1.stored (j * 2 + 1) b).1
theorem flat_len2 : ∀ (ys : List (List Value)), (∀ c ∈ ys, c.length = 2) → ys.flatten.length = ys.length * 2
  | [], _ => rfl
  | c :: ys, hl => by
    rw [List.flatten_cons, List.length_append, hl c (List.mem_cons_self ..), flat_len2 ys (fun c hc => hl c (List.mem_cons_of_mem _ hc)), List.length_cons, Nat.succ_mul]; omega
theorem made2 (a b : Value) (n : Nat) : (madeCells #[a, b] (n * 2)).toList = (List.replicate n [a, b]).flatten := by
  apply List.ext_getElem?
  intro j
  by_cases hj : j < n * 2
  · have h1 : (List.replicate n [a, b]).flatten[j]? = [a, b][j % 2]? := by
      have hd : j / 2 * 2 + j % 2 = j := by omega
      rw [← hd]
      have := flat_get (n := 2) (List.replicate n [a, b]) (fun c hc => by rw [List.eq_of_mem_replicate hc]; rfl) (j / 2) (j % 2) [a, b] (by omega) (by rw [List.getElem?_replicate, if_pos (by omega)])
      rw [this]
      congr 1; omega
    rw [h1]
    have h2 : (madeCells #[a, b] (n * 2)).toList[j]? = some (#[a, b])[j % 2]! := by
      simp [madeCells, hj]
    rw [h2]
    have h3 : j % 2 = 0 ∨ j % 2 = 1 := by omega
    rcases h3 with h3 | h3 <;> rw [h3] <;> rfl
  · have h2 : (madeCells #[a, b] (n * 2)).toList.length ≤ j := by simp [madeCells]; omega
    have h1 : (List.replicate n [a, b]).flatten.length ≤ j := by
      rw [flat_len2 _ (fun c hc => by rw [List.eq_of_mem_replicate hc]; rfl), List.length_replicate]; omega
    rw [List.getElem?_eq_none h2, List.getElem?_eq_none h1]
/-- The first parts are in their places, noughts behind. -/
def fill (z : List Value) (ccs : List (List Value)) (j : Nat) : List (List Value) := ccs.take j ++ List.replicate (ccs.length - j) z
theorem fill_set (z : List Value) (ccs : List (List Value)) (j : Nat) (c : List Value) (h : ccs[j]? = some c) : (fill z ccs j).set j c = fill z ccs (j + 1) := by
  have hj : j < ccs.length := (List.getElem?_eq_some_iff.1 h).1
  unfold fill
  have e1 : ccs.length - j = (ccs.length - (j + 1)) + 1 := by omega
  have e2 : (ccs.take j).length = j := by rw [List.length_take]; omega
  rw [e1, List.replicate_succ, List.set_append_right _ _ (by omega), e2, Nat.sub_self, List.set_cons_zero, List.take_add_one, h, List.append_assoc]
  rfl
theorem fill_len (z : List Value) (ccs : List (List Value)) (j : Nat) (h : j ≤ ccs.length) : (fill z ccs j).length = ccs.length := by
  unfold fill; rw [List.length_append, List.length_take, List.length_replicate]; omega
theorem fill_two {z : List Value} {ccs : List (List Value)} (hz : z.length = 2) (hc : ∀ c ∈ ccs, c.length = 2) (j : Nat) : ∀ c ∈ fill z ccs j, c.length = 2 := by
  intro c hm
  unfold fill at hm
  rcases List.mem_append.1 hm with h | h
  · exact hc c (List.mem_of_mem_take h)
  · rw [List.eq_of_mem_replicate h]; exact hz
theorem fill_get (z : List Value) (ccs : List (List Value)) (j : Nat) (h : j < ccs.length) : (fill z ccs j)[j]? = some z := by
  unfold fill
  have e2 : (ccs.take j).length = j := by rw [List.length_take]; omega
  rw [List.getElem?_append_right (by omega), e2, Nat.sub_self, List.getElem?_replicate, if_pos (by omega)]
theorem fill_all (z : List Value) (ccs : List (List Value)) : fill z ccs ccs.length = ccs := by unfold fill; simp
/-- Forcing makes a row of the same parts. -/
def PgfPost {α : Type} (R : (Nat → Prop) → World → List Value → α → Prop) (e d : Nat) (F : Nat → Prop) (l : List α) (w : World) (en : Ending) (w' : World) : Prop :=
  ∃ a n c, en = .returned (.agg #[.slice a n c, .int .u8 d]) ∧ RowS R e (fun k => w.heap.size ≤ k ∨ (F k ∧ k < w.heap.size)) w' (.slice a n c) l ∧ Below w.heap.size w w'
set_option maxRecDepth 100000 in
set_option maxHeartbeats 4000000 in
theorem polyForce_any (d d0 : Nat) (F : Nat → Prop) (v : Value) (l : List (List Nat)) (w : World) (h : RowS (LSc d) 126 F w v l) :
    Calls Tryz.prog 81 #[.agg #[v, .int .u8 d0], .int .u8 d] w (PgfPost (LSc d) 126 d F l w) := by
  obtain ⟨i0, hi, hz0, hz1, hz2⟩ := info_parts info126
  obtain ⟨ccs, hown, hFv, hA, hll⟩ := h
  obtain ⟨a, c, rfl, hrow⟩ := row_slice hown
  have hcl : ∀ c ∈ ccs, c.length = 2 := All2.left (fun a b h => (LSc.rep d).len F w a b h) hA
  have hlen : ccs.length = l.length := All2.length hA
  have HP := Lib.hid (And.intro hown (And.intro hA (And.intro hrow (And.intro hcl (And.intro hlen hFv)))))
  clear hown hA hrow hcl hlen hFv
  obtain ⟨n, hn⟩ : ∃ n, n = l.length := ⟨_, rfl⟩
  rw [← hn] at hll HP ⊢
  have HN := Lib.hid hn; clear hn
  obtain ⟨W0, hW0⟩ : ∃ W0, W0 = (w.alloc (.cells #[.slice a n c, .int .u8 d0] 81)).alloc (.cells #[.slice none 0 0, .int .u8 0] 81) := ⟨_, rfl⟩
  have hbW : Below w.heap.size w W0 := by rw [hW0]; exact below2 _ _ _
  have r0 : Rw w.heap.size #[.slice a n c, .int .u8 d0] 81 W0 := by rw [hW0]; exact (Rw.new _ _ _).alloc _
  have r1 : Rw (w.heap.size + 1) #[.slice none 0 0, .int .u8 0] 81 W0 := by rw [hW0]; exact heap_new2 _ _ _
  have hs0 : W0.heap.size = w.heap.size + 2 := by rw [hW0]; simp
  obtain ⟨W1, hmk, hown1, hg1⟩ := run_make_full (P := Tryz.prog) W0 W0.heap.size 79 126 i0 _ 2 Tryz.underlying79 hi hz0 hz1 .i64 .i64 n (by rw [hz2]; omega) (by unfold maxLen; omega) (Nat.le_refl _)
  have hk1 : ∀ k, k < W0.heap.size → W1.heap[k]? = W0.heap[k]? := fun k hk => hg1.block k hk (fun e => by cases e)
  have hbW1 : Below w.heap.size w W1 := hbW.grown hg1 (by omega) (fun _ e => by cases e)
  have hz : (Value.agg #[Value.int IntKind.u8 0, Value.slice none 0 0]).cells = #[.int .u8 0, .slice none 0 0] := rfl
  rw [hz, made2] at hown1
  have HM := Lib.hid (And.intro hown1 (And.intro hbW1 (And.intro (r0.kp (hk1 _ (by omega))) (r1.kp (hk1 _ (by omega))))))
  have H0 := Lib.hid (And.intro hW0 hs0)
  have q0 : W0.cell? ⟨w.heap.size, 0, none⟩ = some (.slice a n c) := r0.cell 0 rfl
  clear hown1 hg1 hk1 hbW1 hbW r0 r1 hs0
  go_enter Tryz.func81, Tryz.ntmps81
  go_upto_region 1 with fail
  rw [← hW0]
  clear hW0
  go_upto_region 2 with fail
  obtain ⟨g0, hg0⟩ : ∃ g0, g0 = W0.heap.size := ⟨_, rfl⟩
  rw [← hg0] at HM ⊢
  have hgN : g0 = w.heap.size + 2 := by rw [hg0]; exact H0.out.2
  have HGN := Lib.hid hgN; clear hgN
  have q1 : W1.cell? ⟨w.heap.size, 0, none⟩ = some (.slice a n c) := HM.out.2.2.1.cell 0 rfl
  clear hmk hg0 q0
  go_wp2_with fail
  go_loopw [14] (fun i wr => ∃ j : Nat, j ≤ n ∧ i = .int .i64 j ∧ RowKit.Hid (wr.ownsRow g0 126 2 (.slice (some ⟨g0, 0, none⟩) n n) n (fill [.int .u8 0, .slice none 0 0] ccs j).flatten ∧ Below w.heap.size w wr ∧ Rw w.heap.size #[.slice a n c, .int .u8 d0] 81 wr ∧ Rw (w.heap.size + 1) #[.slice none 0 0, .int .u8 0] 81 wr)) (fun i _ => n - (intOf i).toNat)
  case atStart => exact ⟨0, Nat.zero_le _, rfl, Lib.hid ⟨by have h := HM.out.1; unfold fill; rw [HP.out.2.2.2.2.1, List.take_zero, List.nil_append, Nat.sub_zero]; exact h, HM.out.2.1, HM.out.2.2.1, HM.out.2.2.2⟩⟩
  case round =>
    obtain ⟨j, hj, rfl, hS⟩ := hrel
    by_cases hlt : j < n
    · obtain ⟨hown, hA, hrow, hcl, hlen, hFv⟩ := HP.out
      obtain ⟨x, hx⟩ : ∃ x, l[j]? = some x := ⟨l[j]'(by rw [← HN.out]; exact hlt), List.getElem?_eq_getElem _⟩
      obtain ⟨cj, hcj, hRx⟩ := All2.get hA j x hx
      obtain ⟨g, rfl, hg, -, hcell⟩ := hrow (by omega)
      obtain ⟨y2, y3, y4, rfl⟩ := hRx.form
      have hfl : ∀ i, i < 2 → wr.cell? ⟨g, j * 2 + i, none⟩ = [Value.int .u8 d, .slice y2 y3 y4][i]? := fun i h => by
        rw [hS.out.2.1.cell (p := ⟨g, j * 2 + i, none⟩) hg, ← flat_get ccs hcl j i _ h hcj]
        refine hcell _ ?_
        rw [flat_len2 ccs hcl, hlen]; omega
      have p0 : wr.cell? ⟨g, j * 2, none⟩ = some (.int .u8 d) := hfl 0 (by decide)
      have p1 : wr.cell? ⟨g, j * 2 + 1, none⟩ = some (.slice y2 y3 y4) := hfl 1 (by decide)
      have b0 : wr.cell? ⟨w.heap.size, 0, none⟩ = some (.slice (some ⟨g, 0, none⟩) n c) := hS.out.2.2.1.cell 0 rfl
      have hft := fill_two (z := [.int .u8 0, .slice none 0 0]) rfl hcl j
      have hfs := fill_set [.int .u8 0, .slice none 0 0] ccs j _ hcj
      have hfn := fill_len [.int .u8 0, .slice none 0 0] ccs j (by rw [hlen]; omega)
      have hfg := fill_get [.int .u8 0, .slice none 0 0] ccs j (by rw [hlen]; omega)
      have hf0 : (fill [.int .u8 0, .slice none 0 0] ccs j).flatten[j * 2]? = some (.int .u8 0) := flat_get _ hft j 0 _ (by decide) hfg
      have hf1 : (fill [.int .u8 0, .slice none 0 0] ccs j).flatten[j * 2 + 1]? = some (.slice none 0 0) := flat_get _ hft j 1 _ (by decide) hfg
      have HC := Lib.hid (And.intro hft (And.intro hfs (And.intro hfn (And.intro hlen (And.intro hf0 hf1)))))
      clear hown hA hrow hcl hlen hFv hx hcj hRx hcell hfl hft hfs hfn hfg hf0 hf1
      have hnj : (j : Int) < (n : Int) := by omega
      go_upto_region 6 with (go_at_call 106; refine (lineForce_same d y3 y4 y2 _).mono ?_; rintro e w5 ⟨rfl, hb5⟩; have hown5 := ownsRow_keep (w' := w5) hS.out.1 (fun k _ hl => hb5.block k hl); have s0 : w5.cell? ⟨g0, j * 2, none⟩ = some (.int .u8 0) := (hown5.cellAt (j * 2) (by omega)).trans HC.out.2.2.2.2.1; have s1 : w5.cell? ⟨g0, j * 2 + 1, none⟩ = some (.slice none 0 0) := (hown5.cellAt (j * 2 + 1) (by omega)).trans HC.out.2.2.2.2.2; have z0 := hown5.frozenAt (j * 2); have z1 := hown5.frozenAt (j * 2 + 1))
      have HE := Lib.hid (And.intro hown5 hb5)
      clear hown5 hb5
      go_wp2_with fail
      go_roundw
      case rel =>
        obtain ⟨r1, r2, r3, r4⟩ := hS.out
        obtain ⟨e1, e2⟩ := HE.out
        have hg := HGN.out
        have hl1 := r4.lt
        have hk : ∀ k, k ≠ g0 → k < wr.heap.size → ((w5.setCell ⟨g0, j * 2, none⟩ (.int .u8 d)).setCell ⟨g0, j * 2 + 1, none⟩ (.slice y2 y3 y4)).heap[k]? = wr.heap[k]? := fun k h1 h2 => by
          rw [Below.heap_setCell _ _ _ _ h1, Below.heap_setCell _ _ _ _ h1]; exact e2.block k h2
        refine ⟨j + 1, by omega, by go_num, Lib.hid ⟨?_, ?_, r3.kp (hk _ (by omega) (by omega)), r4.kp (hk _ (by omega) hl1)⟩⟩
        · have := row_set2 e1 HC.out.1 j (by rw [HC.out.2.2.1, HC.out.2.2.2.1]; omega) (.int .u8 d) (.slice y2 y3 y4)
          rw [HC.out.2.1] at this
          exact this
        · exact ((r2.trans (e2.mono (by omega))).setCell (p := ⟨g0, j * 2, none⟩) (by show w.heap.size ≤ g0; omega) _).setCell (p := ⟨g0, j * 2 + 1, none⟩) (by show w.heap.size ≤ g0; omega) _
      case measure => simp [intOf]; omega
    · have hjn : j = n := by omega
      subst hjn
      obtain ⟨r1, r2, r3, r4⟩ := hS.out
      have o0 : wr.cell? ⟨w.heap.size + 1, 0, none⟩ = some (.slice none 0 0) := r4.cell 0 rfl
      have o1 : wr.cell? ⟨w.heap.size + 1, 1, none⟩ = some (.int .u8 0) := r4.cell 1 rfl
      have f0 := r4.froz 0
      have f1 := r4.froz 1
      have HR := Lib.hid (And.intro r1 (And.intro r2 (And.intro r3 r4)))
      clear r1 r2 r3 r4 hS
      go_wp2_with fail
      obtain ⟨r1, r2, r3, r4⟩ := HR.out
      have hq := (r4.set 0 (.slice (some ⟨g0, 0, none⟩) j j)).set 1 (.int .u8 d)
      have hbq : Below w.heap.size w ((wr.setCell ⟨w.heap.size + 1, 0, none⟩ (.slice (some ⟨g0, 0, none⟩) j j)).setCell ⟨w.heap.size + 1, 1, none⟩ (.int .u8 d)) := (r2.setCell (p := ⟨w.heap.size + 1, 0, none⟩) (by simp) _).setCell (p := ⟨w.heap.size + 1, 1, none⟩) (by simp) _
      refine bodyPost_ret_by (results_cell_row rfl _ _ (w.heap.size + 1) 81 _ (0, 0) _ rfl hq Tryz.underlying81 rfl (by kernel_rfl)) rfl ⟨_, _, _, rfl, ?_, hbq⟩
      obtain ⟨hown, hA, hrow, hcl, hlen, hFv⟩ := HP.out
      have hg := HGN.out
      rw [← hlen, fill_all, hlen] at r1
      refine ⟨ccs, ?_, fun k hk => ?_, All2.imp (fun c y hcy => ?_) hA, by rw [← HN.out]; exact hll⟩
      · rw [← HN.out]
        refine ownsRow_keep (ownsRow_zero r1) fun k hk _ => ?_
        have : g0 = k := by simpa [Value.ownBlock] using hk
        rw [Below.heap_setCell _ _ _ _ (by show k ≠ w.heap.size + 1; omega), Below.heap_setCell _ _ _ _ (by show k ≠ w.heap.size + 1; omega)]
      · have : g0 = k := by simpa [Value.ownBlock] using hk
        left; omega
      · refine (LSc.rep d).mono _ _ _ _ _ ((LSc.rep d).keep _ w _ _ _ ((LSc.rep d).nar _ _ _ _ hcy) fun k o hk ho _ => (hbq.block k hk.2).trans ho) fun k hk => .inr hk
end Go.Proofs.YtblpcpkkjbkakaaGreatDoor
/- Making a polygon of its rings. -/
namespace Go.Proofs.YtblpcpkkjbkakaaGreatDoor
open Go Go.RowKit
set_option linter.unusedVariables false
set_option linter.unusedSimpArgs false

theorem All2.set {α β : Type} {R : α → β → Prop} {c : α} {x : β} (hr : R c x) : ∀ {l : List α} {m : List β} (j : Nat), All2 R l m → m[j]? = some x → All2 R (l.set j c) m
  | [], [], j, _, h => by simp at h
  | a :: l, b :: m, 0, ⟨_, hy⟩, h => by
    simp only [List.getElem?_cons_zero, Option.some.injEq] at h
    subst h
    exact ⟨hr, hy⟩
  | a :: l, b :: m, j + 1, ⟨hx, hy⟩, h => ⟨hx, All2.set hr j hy (by simpa using h)⟩
  | [], _ :: _, _, h, _ => h.elim
  | _ :: _, [], _, h, _ => h.elim
theorem u8and (d : Nat) (hd : d < 4) : bits BinOp.and IntKind.u8 3 (d : Int) = d ∧ bits BinOp.and IntKind.u8 (d : Int) (d : Int) = d := by
  obtain rfl | rfl | rfl | rfl : d = 0 ∨ d = 1 ∨ d = 2 ∨ d = 3 := by omega
  all_goals exact ⟨by kernel_rfl, by kernel_rfl⟩
/-- Where parts of a row that is made anew may lie. -/
def Fg (N g : Nat) (F : Nat → Prop) (k : Nat) : Prop := (N + 1 ≤ k ∧ k ≠ g) ∨ (F k ∧ k < N)
/-- A row that was copied: its parts, with others in their places perhaps. -/
def CpSt {α : Type} (R : (Nat → Prop) → World → List Value → α → Prop) (e : Nat) (F : Nat → Prop) (n g cap : Nat) (l : List α) (z : Array Value) (t : TypeId) (w wr : World) : Prop :=
  ∃ ys, wr.ownsRow (w.heap.size + 1) e 2 (.slice (some ⟨g, 0, none⟩) n cap) n ys.flatten ∧ All2 (R (Fg w.heap.size g F) wr) ys l ∧ Below w.heap.size w wr ∧ Rw w.heap.size z t wr ∧ w.heap.size + 1 ≤ g
theorem CpSt.old {α : Type} {R : (Nat → Prop) → World → List Value → α → Prop} (hR : Rep2 R) {e : Nat} {F : Nat → Prop} {n g cap : Nat} {l : List α} {z : Array Value} {t : TypeId} {w wr w5 : World} (h : CpSt R e F n g cap l z t w wr) (hb : Below wr.heap.size wr w5) : CpSt R e F n g cap l z t w w5 := by
  obtain ⟨ys, h1, h2, h3, h4, h5⟩ := h
  exact ⟨ys, ownsRow_keep h1 fun k _ hl => hb.block k hl, All2.imp (fun c y hcy => hR.keep _ wr w5 _ _ hcy fun k o _ ho _ => (hb.block k (Array.getElem?_eq_some_iff.1 ho).1).trans ho) h2, h3.trans (hb.mono (Nat.le_of_lt h4.lt)), h4.old hb h4.lt, h5⟩
/-- A part in its place anew. -/
theorem CpSt.set {α : Type} {R : (Nat → Prop) → World → List Value → α → Prop} (hR : Rep2 R) {e : Nat} {F : Nat → Prop} {n g cap : Nat} {l : List α} {z : Array Value} {t : TypeId} {w wr : World} (h : CpSt R e F n g cap l z t w wr) (j : Nat) (x : α) (a c : Value) (hx : l[j]? = some x) (hr : R (Fg w.heap.size g F) wr [a, c] x) :
    CpSt R e F n g cap l z t w ((wr.setCell ⟨g, j * 2, none⟩ a).setCell ⟨g, j * 2 + 1, none⟩ c) := by
  obtain ⟨ys, h1, h2, h3, h4, h5⟩ := h
  have hl : ∀ c ∈ ys, c.length = 2 := All2.left (fun a b h => hR.len _ wr a b h) h2
  have hk : ∀ k, k ≠ g → ((wr.setCell ⟨g, j * 2, none⟩ a).setCell ⟨g, j * 2 + 1, none⟩ c).heap[k]? = wr.heap[k]? := fun k hk => by
    rw [Below.heap_setCell _ _ _ _ hk, Below.heap_setCell _ _ _ _ hk]
  have hkeep : ∀ cs y, R (Fg w.heap.size g F) wr cs y → R (Fg w.heap.size g F) ((wr.setCell ⟨g, j * 2, none⟩ a).setCell ⟨g, j * 2 + 1, none⟩ c) cs y := fun cs y hcy =>
    hR.keep _ wr _ _ _ hcy fun k o hF ho _ => (hk k (by rcases hF with h | h; exact h.2; omega)).trans ho
  refine ⟨ys.set j [a, c], row_set2 h1 hl j ?_ a c, All2.set (hkeep _ _ hr) j (All2.imp hkeep h2) hx, (h3.setCell (p := ⟨g, j * 2, none⟩) (by show w.heap.size ≤ g; omega) _).setCell (p := ⟨g, j * 2 + 1, none⟩) (by show w.heap.size ≤ g; omega) _, h4.kp (hk _ (by omega)), h5⟩
  rw [All2.length h2]
  exact (List.getElem?_eq_some_iff.1 hx).1
/-- What stands at a part's place. -/
theorem CpSt.cells {α : Type} {R : (Nat → Prop) → World → List Value → α → Prop} (hR : Rep2 R) {e : Nat} {F : Nat → Prop} {n g cap : Nat} {l : List α} {z : Array Value} {t : TypeId} {w wr : World} (h : CpSt R e F n g cap l z t w wr) (j : Nat) (x : α) (hx : l[j]? = some x) (hn : l.length = n) :
    ∃ a c, R (Fg w.heap.size g F) wr [a, c] x ∧ wr.cell? ⟨g, j * 2, none⟩ = some a ∧ wr.cell? ⟨g, j * 2 + 1, none⟩ = some c ∧ wr.frozen? ⟨g, j * 2, none⟩ = false ∧ wr.frozen? ⟨g, j * 2 + 1, none⟩ = false := by
  obtain ⟨ys, h1, h2, h3, h4, h5⟩ := h
  have hl : ∀ c ∈ ys, c.length = 2 := All2.left (fun a b h => hR.len _ wr a b h) h2
  obtain ⟨cj, hcj, hRx⟩ := All2.get h2 j x hx
  have h2l := hl cj (List.mem_of_getElem? hcj)
  have hjn : j < n := by rw [← hn]; exact (List.getElem?_eq_some_iff.1 hx).1
  match cj, h2l with
  | [a, c], _ =>
    exact ⟨a, c, hRx, (h1.cellAt (j * 2) (by omega)).trans (flat_get ys hl j 0 _ (by decide) hcj), (h1.cellAt (j * 2 + 1) (by omega)).trans (flat_get ys hl j 1 _ (by decide) hcj), h1.frozenAt _, h1.frozenAt _⟩
/-- The row is done. -/
theorem CpSt.done {α : Type} {R : (Nat → Prop) → World → List Value → α → Prop} (hR : Rep2 R) {e : Nat} {F : Nat → Prop} {n g cap d : Nat} {l : List α} {z0 z1 : Value} {t : TypeId} {w wr : World} (h : CpSt R e F n g cap l #[z0, z1] t w wr) (hn : l.length = n) (hll : n ≤ 100000) :
    Rw w.heap.size #[.slice (some ⟨g, 0, none⟩) n cap, .int .u8 d] t ((wr.setCell ⟨w.heap.size, 0, none⟩ (.slice (some ⟨g, 0, none⟩) n cap)).setCell ⟨w.heap.size, 1, none⟩ (.int .u8 d)) ∧
    PgfPost R e d F l w (.returned (.agg #[.slice (some ⟨g, 0, none⟩) n cap, .int .u8 d])) ((wr.setCell ⟨w.heap.size, 0, none⟩ (.slice (some ⟨g, 0, none⟩) n cap)).setCell ⟨w.heap.size, 1, none⟩ (.int .u8 d)) := by
  obtain ⟨ys, h1, h2, h3, h4, h5⟩ := h
  have hk : ∀ k, k ≠ w.heap.size → ((wr.setCell ⟨w.heap.size, 0, none⟩ (.slice (some ⟨g, 0, none⟩) n cap)).setCell ⟨w.heap.size, 1, none⟩ (.int .u8 d)).heap[k]? = wr.heap[k]? := fun k hk => by
    rw [Below.heap_setCell _ _ _ _ hk, Below.heap_setCell _ _ _ _ hk]
  refine ⟨(h4.set 0 _).set 1 _, _, _, _, rfl, ⟨ys, ?_, fun k hk' => ?_, All2.imp (fun c y hcy => ?_) h2, by omega⟩, (h3.setCell (p := ⟨w.heap.size, 0, none⟩) (Nat.le_refl _) _).setCell (p := ⟨w.heap.size, 1, none⟩) (Nat.le_refl _) _⟩
  · rw [hn]
    refine ownsRow_keep (ownsRow_zero h1) fun k hk' _ => hk k ?_
    have : g = k := by simpa [Value.ownBlock] using hk'
    omega
  · have : g = k := by simpa [Value.ownBlock] using hk'
    left; omega
  · refine hR.mono _ _ _ _ _ (hR.keep _ wr _ _ _ hcy fun k o hF ho _ => (hk k (by rcases hF with h | h; omega; omega)).trans ho) fun k hF => ?_
    rcases hF with h | h
    · left; omega
    · exact .inr h
set_option maxRecDepth 100000 in
set_option maxHeartbeats 4000000 in
theorem newPoly_any (d : Nat) (F : Nat → Prop) (v : Value) (l : List (List Nat)) (w : World) (hd : d < 4) (h : RowS (LSc d) 126 F w v l) (hn0 : 0 < l.length) :
    Calls Tryz.prog 82 #[v] w (PgfPost (LSc d) 126 d F l w) := by
  obtain ⟨i0, hi, hz0, hz1, hz2⟩ := info_parts info126
  obtain ⟨ccs, hown, hFv, hA, hll⟩ := h
  obtain ⟨a, c, rfl, hrow⟩ := row_slice hown
  obtain ⟨g, rfl, hg, -, hcell⟩ := hrow hn0
  have hcl : ∀ c ∈ ccs, c.length = 2 := All2.left (fun a b h => (LSc.rep d).len F w a b h) hA
  have hlen : ccs.length = l.length := All2.length hA
  have hf2 := flat_len2 ccs hcl
  have HP := Lib.hid (And.intro hown (And.intro hA (And.intro hcell (And.intro hcl (And.intro hlen hf2)))))
  clear hown hA hcell hrow hcl hlen hFv hf2
  obtain ⟨n, hn⟩ : ∃ n, n = l.length := ⟨_, rfl⟩
  rw [← hn] at hll HP hn0 ⊢
  have HN := Lib.hid hn; clear hn
  obtain ⟨ba, bb⟩ := u8and d hd
  have HB := Lib.hid (And.intro ba bb); clear ba bb
  have hnp : (0 : Int) < (n : Int) := by omega
  go_enter Tryz.func82, Tryz.ntmps82
  go_wp2_with fail
  go_loopw [3, 12] (fun dv i wr => ∃ (j : Nat) (D : Int), j ≤ n ∧ i = .int .i64 j ∧ dv = .int .u8 D ∧ bits BinOp.and IntKind.u8 D (d : Int) = d ∧ RowKit.Hid ((j = 0 ∨ D = d) ∧ Below w.heap.size w wr ∧ Rw w.heap.size #[.slice none 0 0, .int .u8 0] 81 wr)) (fun _ i _ => n - (intOf i).toNat)
  case atStart => exact ⟨0, 3, Nat.zero_le _, rfl, rfl, HB.out.1, Lib.hid ⟨.inl rfl, (Below.refl _ _).alloc (Nat.le_refl _) _, Rw.new _ _ _⟩⟩
  case round =>
    obtain ⟨j, D, hj, rfl, rfl, hDd, hS⟩ := hrel
    by_cases hlt : j < n
    · obtain ⟨hown, hA, hcell, hcl, hlen, hf2⟩ := HP.out
      obtain ⟨x, hx⟩ : ∃ x, l[j]? = some x := ⟨l[j]'(by rw [← HN.out]; exact hlt), List.getElem?_eq_getElem _⟩
      obtain ⟨cj, hcj, hRx⟩ := All2.get hA j x hx
      obtain ⟨y2, y3, y4, rfl⟩ := hRx.form
      have hfl : ∀ i, i < 2 → wr.cell? ⟨g, j * 2 + i, none⟩ = [Value.int .u8 d, .slice y2 y3 y4][i]? := fun i h => by
        rw [hS.out.2.1.cell (p := ⟨g, j * 2 + i, none⟩) hg, ← flat_get ccs hcl j i _ h hcj]
        refine hcell _ ?_
        rw [hf2, hlen]; omega
      have p0 : wr.cell? ⟨g, j * 2, none⟩ = some (.int .u8 d) := hfl 0 (by decide)
      have p1 : wr.cell? ⟨g, j * 2 + 1, none⟩ = some (.slice y2 y3 y4) := hfl 1 (by decide)
      clear hown hA hcell hcl hlen hf2 hx hcj hRx hfl
      go_wp2_with (go_at_call 107; refine (lctype_any d y3 y4 y2 _).mono ?_; rintro e w5 ⟨rfl, hb5⟩; replace hb5 := Lib.hid hb5)
      go_roundw
      case rel =>
        have hb6 : Below wr.heap.size wr w5 := ((Below.refl _ _).alloc (Nat.le_refl _) _).trans (hb5.out.mono (by simp))
        exact ⟨j + 1, d, by omega, by go_num, by first | rfl | (rw [hDd]), HB.out.2, Lib.hid ⟨.inr rfl, hS.out.2.1.trans (hb6.mono hS.out.2.1.size), hS.out.2.2.old hb6 hS.out.2.2.lt⟩⟩
      case measure => simp [intOf]; omega
    · have hjn : j = n := by omega
      subst hjn
      have hDd' : D = d := by rcases hS.out.1 with h | h; omega; exact h
      subst hDd'
      have hg0 : ∀ u k, ccs.flatten[k]? = some u → wr.cell? ((⟨g, 0, none⟩ : Addr).add k) = some u := by
        intro u k hu
        rw [show (⟨g, 0, none⟩ : Addr).add k = ⟨g, k, none⟩ by unfold Addr.add; split <;> simp_all, hS.out.2.1.cell (p := ⟨g, k, none⟩) hg, HP.out.2.2.1 k (lt_of_get' hu), hu]
      have hone : ∀ u ∈ ccs.flatten, u.oneCell' = true := by
        intro u hu
        obtain ⟨c, hc, huc⟩ := List.mem_flatten.1 hu
        exact All2.left (P := fun c => ∀ u ∈ c, u.oneCell' = true) (fun a b h => (LSc.rep d).one F w a b h) HP.out.2.1 c hc u huc
      have HG := Lib.hid (And.intro hg0 hone); clear hg0 hone
      obtain ⟨o0, o1⟩ : wr.cell? ⟨w.heap.size, 0, none⟩ = some (.slice none 0 0) ∧ wr.cell? ⟨w.heap.size, 1, none⟩ = some (.int .u8 0) := ⟨hS.out.2.2.cell 0 rfl, hS.out.2.2.cell 1 rfl⟩
      go_upto_region 10 with (at_builtin; refine wpList_append_lies _ rfl _ _ 79 rfl (w.heap.size + 1) 126 i0 _ 2 32 Tryz.underlying79 hi hz0 hz1 hz2 rfl (by decide) (.slice none 0 0) 0 [] rfl (World.ownsRow_nil _ _ _ _) ⟨g, 0, none⟩ j c ccs.flatten rfl (by rw [HP.out.2.2.2.2.2, HP.out.2.2.2.2.1]) (fun k u hu => HG.out.1 u k hu) HG.out.2 hn0 (by unfold maxLen; omega) (by omega) hS.out.2.2.lt wr.heap.size rfl ?_; intro g3 cap w4 hown4 hg4 hat4 hlt4)
      have hg3 : g3 = wr.heap.size := by rcases hat4 with h | h; cases h; exact h
      have hk4 : ∀ k, k < wr.heap.size → w4.heap[k]? = wr.heap[k]? := fun k hk => hg4.block k hk (fun e => by cases e)
      have hwr := hS.out.2.2.lt
      have hcp : CpSt (LSc d) 126 F j g3 cap l #[.slice none 0 0, .int .u8 0] 81 w w4 := by
        refine ⟨ccs, by simpa using hown4, All2.imp (fun c y hcy => ?_) HP.out.2.1, hS.out.2.1.grown hg4 hS.out.2.1.size (fun _ e => by cases e), hS.out.2.2.kp (hk4 _ hwr), by omega⟩
        exact (LSc.rep d).mono _ _ _ _ _ ((LSc.rep d).keep _ w w4 _ _ ((LSc.rep d).nar _ _ _ _ hcy) fun k o hk ho _ => ((hk4 k (by have := hk.2; omega)).trans (hS.out.2.1.block k hk.2)).trans ho) fun k hk => .inr hk
      have HCP := Lib.hid hcp
      clear hcp hown4 hg4 hat4 hk4 hlt4 o0 o1
      have HG3 := Lib.hid (And.intro hg3 hwr); clear hg3 hwr hS HG
      have hje : j + 0 = j := rfl
      go_wp2_with fail
      go_loopw [25] (fun i wx => ∃ k : Nat, k ≤ j ∧ i = .int .i64 k ∧ RowKit.Hid (CpSt (LSc d) 126 F j g3 cap l #[.slice none 0 0, .int .u8 0] 81 w wx)) (fun i _ => j - (intOf i).toNat)
      case atStart => exact ⟨0, Nat.zero_le _, rfl, HCP⟩
      case round =>
        obtain ⟨k, hk, rfl, hC⟩ := hrel
        by_cases hlt2 : k < j
        · obtain ⟨x, hx⟩ : ∃ x, l[k]? = some x := ⟨l[k]'(by rw [← HN.out]; exact hlt2), List.getElem?_eq_getElem _⟩
          obtain ⟨p0, p1, hRx, e0, e1, f0, f1⟩ := hC.out.cells (LSc.rep d) k x hx HN.out.symm
          obtain ⟨y2, y3, y4, hcs⟩ := hRx.form
          obtain ⟨rfl, rfl⟩ : p0 = .int .u8 d ∧ p1 = .slice y2 y3 y4 := by
            simp only [List.cons.injEq, and_true] at hcs
            exact hcs
          have HX := Lib.hid (And.intro hx hRx); clear hx hRx hcs
          have hkj : (k : Int) < (j : Int) := by omega
          go_upto_region 14 with (go_at_call 106; refine (lineForce_same d y3 y4 y2 _).mono ?_; rintro e w5 ⟨rfl, hb5⟩; obtain ⟨s0, s1, -, t0, t1, u0, u1⟩ := (hC.out.old (LSc.rep d) hb5).cells (LSc.rep d) k x HX.out.1 HN.out.symm; replace hb5 := Lib.hid hb5)
          go_wp2_with fail
          go_roundw
          case rel =>
            have h5 := hC.out.old (LSc.rep d) hb5.out
            have hx5 := (LSc.rep d).keep _ _ w5 _ _ HX.out.2 fun k o _ ho _ => (hb5.out.block k (Array.getElem?_eq_some_iff.1 ho).1).trans ho
            exact ⟨k + 1, by omega, by go_num, Lib.hid (h5.set (LSc.rep d) k x _ _ HX.out.1 hx5)⟩
          case measure => simp [intOf]; omega
        · have hkj : k = j := by omega
          subst hkj
          obtain ⟨ys, h1, h2, h3, h4, h5⟩ := hC.out
          have o0 := h4.cell 0 (v := Value.slice none 0 0) rfl
          have o1 := h4.cell 1 (v := Value.int .u8 0) rfl
          have f0 := h4.froz 0
          have f1 := h4.froz 1
          clear h1 h2 h3 h4 h5
          go_wp2_with fail
          obtain ⟨q1, q2⟩ := hC.out.done (LSc.rep d) (d := d) HN.out.symm hll
          refine bodyPost_ret_by (results_cell_row rfl _ _ w.heap.size 81 _ (0, 0) _ rfl q1 Tryz.underlying81 rfl (by kernel_rfl)) rfl ?_
          exact q2
end Go.Proofs.YtblpcpkkjbkakaaGreatDoor
/- The parser's reading of a polygon's body. -/
namespace Go.Proofs.YtblpcpkkjbkakaaGreatDoor
open Go Go.RowKit
set_option linter.unusedVariables false
set_option linter.unusedSimpArgs false

theorem pg_fin {α : Type} {R : (Nat → Prop) → World → List Value → α → Prop} (hR : Rep2 R) {e t d n c p : Nat} {a : Option Addr} {l : List α} {s : ByteArray} {rb B b : Nat} {w w1 w2 : World} {T' : List Tok} {X : Option (List α × List Tok)} {zs : List Value}
    (hq : Q2 t (.slice none 0 0) (.int .u8 0) B b rb w w1) (hrow : RowS R e (fun k => w.heap.size + 1 ≤ k) w2 (.slice a n c) l) (hb : Below w1.heap.size w1 w2) (hpt : PT s rb B b p T' w1) (hX : X = some (l, T')) :
    Rw w.heap.size #[.slice a n c, .int .u8 d] t ((w2.setCell ⟨w.heap.size, 0, none⟩ (.slice a n c)).setCell ⟨w.heap.size, 1, none⟩ (.int .u8 d)) ∧
    BpPost (SKc R e d) zs X s rb B b w (.returned (.tuple #[.agg #[.slice a n c, .int .u8 d], .nilIface])) ((w2.setCell ⟨w.heap.size, 0, none⟩ (.slice a n c)).setCell ⟨w.heap.size, 1, none⟩ (.int .u8 d)) := by
  have hq2 : Q2 t (.slice none 0 0) (.int .u8 0) B b rb w w2 := hq.step (Fb.old (Fb.refl _ _ _ _ _) hb (by have := hq.hB; omega) hq.lt)
  obtain ⟨q1, q2, q3, q4⟩ := hq2.fin (.slice a n c) (.int .u8 d)
  obtain ⟨ccs, r1, r2, r3, r4⟩ := hrow
  refine ⟨q1, _, _, rfl, .inl ⟨l, T', hX, rfl, ⟨_, ccs, rfl, ownsRow_keep r1 fun k hk _ => q4 k (by have := r2 k hk; omega), fun k hk => by have := r2 k hk; omega, All2.imp (fun c y hcy => ?_) r3, r4⟩, p, q3 _ _ _ (hpt.old hb)⟩, q2⟩
  exact hR.mono _ _ _ _ _ (hR.keep _ w2 _ _ _ hcy fun k o hk ho _ => (q4 k (by omega)).trans ho) fun k hk => by omega
theorem RowS.mono {α : Type} {R : (Nat → Prop) → World → List Value → α → Prop} (hR : Rep2 R) {e : Nat} {F F' : Nat → Prop} {w : World} {v : Value} {l : List α} (h : RowS R e F w v l) (hm : ∀ k, F k → F' k) : RowS R e F' w v l := by
  obtain ⟨ccs, r1, r2, r3, r4⟩ := h
  exact ⟨ccs, r1, fun k hk => hm k (r2 k hk), All2.imp (fun c y hcy => hR.mono _ _ _ _ _ hcy hm) r3, r4⟩
theorem RowS.nil {α : Type} (R : (Nat → Prop) → World → List Value → α → Prop) (e : Nat) (F : Nat → Prop) (w : World) : RowS R e F w (.slice none 0 0) [] := ⟨[], World.ownsRow_nil _ _ _ _, (fun k hk => by cases hk), trivial, Nat.zero_le _⟩
theorem RowS.len {α : Type} {R : (Nat → Prop) → World → List Value → α → Prop} {e : Nat} {F : Nat → Prop} {w : World} {a : Option Addr} {n c : Nat} {l : List α} (h : RowS R e F w (.slice a n c) l) : n = l.length := by
  obtain ⟨ccs, r1, -⟩ := h
  rcases r1.2 with ⟨h1, h2⟩ | ⟨g, cap, cur, h1, -⟩
  · cases h1; exact h2.symm
  · cases h1; rfl
set_option maxRecDepth 100000 in
set_option maxHeartbeats 4000000 in
theorem poly_pt (s : ByteArray) (rb B b p d : Nat) (g gl gp : Nat × Nat) (T : List Tok) (w : World) (hs : s.size ≤ 2000) (hd : d < 4) (h : PT s rb B b p T w) (hG : GlN B g gl gp w) (hT : T.length ≤ 99999) :
    Calls Tryz.prog 57 #[.pointer (some ⟨b, 0, none⟩), .int .u8 d] w (BpPost (SKc (LSc d) 126 d) [.slice none 0 0, .int .u8 0] (polyP d T) s rb B b w) := by
  obtain ⟨hlb1, hlb2, hlb3, hlb4, hlb5⟩ := h.lt
  have hq0 : Q2 81 (.slice none 0 0) (.int .u8 0) B b rb w (w.alloc (.cells #[.slice none 0 0, .int .u8 0] 81)) := Q2.new hlb2 hlb3 (by omega) (by decide)
  have hal : Below w.heap.size w (w.alloc (.cells #[.slice none 0 0, .int .u8 0] 81)) := (Below.refl _ _).alloc (Nat.le_refl _) _
  have hrp := rings_pt s rb B b p d g gl gp T _ hs hd (h.old hal) (hG.keepO hal) hT
  have hs0 : (w.alloc (.cells #[.slice none 0 0, .int .u8 0] 81)).heap.size = w.heap.size + 1 := by simp
  have HH := Lib.hid (And.intro hq0 (And.intro hrp hs0))
  clear h hG hq0 hal hrp hs0 hlb1 hlb2 hlb3 hlb4 hlb5
  go_enter Tryz.func57, Tryz.ntmps57
  go_upto_region 2 with (go_at_call 80; refine HH.out.2.1.mono ?_; rintro e w1 ⟨v, err, rfl, ⟨a, n, c, rfl⟩, hk, hfr⟩)
  have hq1 := HH.out.1.step (Fb.ofFr hfr)
  clear hfr
  rcases hk with ⟨l, T', hX, rfl, hrow, p1, hpt⟩ | ⟨hX, u, y, rfl⟩
  · rw [HH.out.2.2] at hrow
    have hn := hrow.len
    by_cases hn0 : n = 0
    · have hl : l = [] := List.eq_nil_of_length_eq_zero (by omega)
      subst hl
      have hpf := polyForce_any d 0 (fun _ => False) (.slice none 0 0) [] w1 (RowS.nil _ _ _ _)
      have H1 := Lib.hid (And.intro hq1 (And.intro hpt (And.intro hX hpf)))
      clear hq1 hpt hX hpf hrow hn
      subst hn0
      go_wp2_with (go_at_call 81; refine H1.out.2.2.2.mono ?_; rintro e w2 ⟨a2, n2, c2, rfl, hr2, hb2⟩; obtain ⟨k0, k1, f0, f1⟩ := (H1.out.1.step (Fb.old (Fb.refl _ _ _ _ _) hb2 (by have := H1.out.1.hB; omega) H1.out.1.lt)).facts; replace hr2 := Lib.hid (And.intro hr2 hb2); clear hb2)
      obtain ⟨q1, q2⟩ := pg_fin (LSc.rep d) (d := d) (zs := [.slice none 0 0, .int .u8 0]) H1.out.1 (hr2.out.1.mono (LSc.rep d) (fun k hk => by have := H1.out.1.lt; rcases hk with h | h; omega; exact h.1.elim)) hr2.out.2 H1.out.2.1 H1.out.2.2.1
      refine bodyPost_ret_by (results_row_tmp (u := 5) rfl _ _ w.heap.size 81 _ (0, 0) _ rfl q1 Tryz.underlying81 rfl (by kernel_rfl)) rfl ?_
      exact q2
    · have hb : ((n : Int) == 0) = false := beq_false_of_ne (by omega)
      have hnp := newPoly_any d (fun k => w.heap.size + 1 ≤ k) (.slice a n c) l w1 hd hrow (by omega)
      have H1 := Lib.hid (And.intro hq1 (And.intro hpt (And.intro hX hnp)))
      clear hq1 hpt hX hnp hrow hn hn0
      go_wp2_with (go_at_call 82; refine H1.out.2.2.2.mono ?_; rintro e w2 ⟨a2, n2, c2, rfl, hr2, hb2⟩; obtain ⟨k0, k1, f0, f1⟩ := (H1.out.1.step (Fb.old (Fb.refl _ _ _ _ _) hb2 (by have := H1.out.1.hB; omega) H1.out.1.lt)).facts; replace hr2 := Lib.hid (And.intro hr2 hb2); clear hb2)
      obtain ⟨q1, q2⟩ := pg_fin (LSc.rep d) (d := d) (zs := [.slice none 0 0, .int .u8 0]) H1.out.1 (hr2.out.1.mono (LSc.rep d) (fun k hk => by have := H1.out.1.lt; rcases hk with h | h; omega; omega)) hr2.out.2 H1.out.2.1 H1.out.2.2.1
      refine bodyPost_ret_by (results_row_tmp (u := 5) rfl _ _ w.heap.size 81 _ (0, 0) _ rfl q1 Tryz.underlying81 rfl (by kernel_rfl)) rfl ?_
      exact q2
  · obtain ⟨k0, k1, f0, f1⟩ := hq1.facts
    have H2 := Lib.hid (And.intro hq1 hX); clear hq1 hX
    go_wp2_with fail
    obtain ⟨q1, q2, q3, q4⟩ := H2.out.1.fin (.slice none 0 0) (.int .u8 0)
    refine bodyPost_ret_by (results_row_tmp rfl _ _ w.heap.size 81 _ (0, 0) _ rfl q1 Tryz.underlying81 rfl (by kernel_rfl)) rfl ⟨_, _, rfl, .inr ⟨H2.out.2, rfl, _, _, rfl⟩, q2⟩
end Go.Proofs.YtblpcpkkjbkakaaGreatDoor
/- Making several polygons of polygons. -/
namespace Go.Proofs.YtblpcpkkjbkakaaGreatDoor
open Go Go.RowKit
set_option linter.unusedVariables false
set_option linter.unusedSimpArgs false

theorem CpSt.lt {α : Type} {R : (Nat → Prop) → World → List Value → α → Prop} {e : Nat} {F : Nat → Prop} {n g cap : Nat} {l : List α} {z : Array Value} {t : TypeId} {w wr : World} (h : CpSt R e F n g cap l z t w wr) : g < wr.heap.size ∧ w.heap.size + 1 ≤ wr.heap.size := by
  obtain ⟨ys, h1, h2, h3, h4, h5⟩ := h
  exact ⟨(h1.lt g rfl).2, h4.lt⟩
set_option maxRecDepth 100000 in
set_option maxHeartbeats 4000000 in
theorem newMulti_any (d : Nat) (F : Nat → Prop) (v : Value) (l : List (List (List Nat))) (w : World) (hd : d < 4) (h : RowS (SKc (LSc d) 126 d) 81 F w v l) (hn0 : 0 < l.length) :
    Calls Tryz.prog 60 #[v] w (PgfPost (SKc (LSc d) 126 d) 81 d F l w) := by
  obtain ⟨i0, hi, hz0, hz1, hz2⟩ := info_parts info81
  obtain ⟨ccs, hown, hFv, hA, hll⟩ := h
  obtain ⟨a, c, rfl, hrow⟩ := row_slice hown
  obtain ⟨g, rfl, hg, -, hcell⟩ := hrow hn0
  have hcl : ∀ c ∈ ccs, c.length = 2 := All2.left (fun a b h => (SKc.rep (LSc.rep d) 126 d (by decide)).len F w a b h) hA
  have hlen : ccs.length = l.length := All2.length hA
  have hf2 := flat_len2 ccs hcl
  have HP := Lib.hid (And.intro hown (And.intro hA (And.intro hcell (And.intro hcl (And.intro hlen hf2)))))
  clear hown hA hcell hrow hcl hlen hFv hf2
  obtain ⟨n, hn⟩ : ∃ n, n = l.length := ⟨_, rfl⟩
  rw [← hn] at hll HP hn0 ⊢
  have HN := Lib.hid hn; clear hn
  obtain ⟨ba, bb⟩ := u8and d hd
  have HB := Lib.hid (And.intro ba bb); clear ba bb
  have hnp : (0 : Int) < (n : Int) := by omega
  go_enter Tryz.func60, Tryz.ntmps60
  go_wp2_with fail
  go_loopw [3, 12] (fun dv i wr => ∃ (j : Nat) (D : Int), j ≤ n ∧ i = .int .i64 j ∧ dv = .int .u8 D ∧ bits BinOp.and IntKind.u8 D (d : Int) = d ∧ RowKit.Hid ((j = 0 ∨ D = d) ∧ Below w.heap.size w wr ∧ Rw w.heap.size #[.slice none 0 0, .int .u8 0] 53 wr)) (fun _ i _ => n - (intOf i).toNat)
  case atStart => exact ⟨0, 3, Nat.zero_le _, rfl, rfl, HB.out.1, Lib.hid ⟨.inl rfl, (Below.refl _ _).alloc (Nat.le_refl _) _, Rw.new _ _ _⟩⟩
  case round =>
    obtain ⟨j, D, hj, rfl, rfl, hDd, hS⟩ := hrel
    by_cases hlt : j < n
    · obtain ⟨hown, hA, hcell, hcl, hlen, hf2⟩ := HP.out
      obtain ⟨x, hx⟩ : ∃ x, l[j]? = some x := ⟨l[j]'(by rw [← HN.out]; exact hlt), List.getElem?_eq_getElem _⟩
      obtain ⟨cj, hcj, hRx⟩ := All2.get hA j x hx
      obtain ⟨y2, y3, y4, rfl⟩ := hRx.form
      have hfl : ∀ i, i < 2 → wr.cell? ⟨g, j * 2 + i, none⟩ = [Value.slice y2 y3 y4, .int .u8 d][i]? := fun i h => by
        rw [hS.out.2.1.cell (p := ⟨g, j * 2 + i, none⟩) hg, ← flat_get ccs hcl j i _ h hcj]
        refine hcell _ ?_
        rw [hf2, hlen]; omega
      have p0 : wr.cell? ⟨g, j * 2, none⟩ = some (.slice y2 y3 y4) := hfl 0 (by decide)
      have p1 : wr.cell? ⟨g, j * 2 + 1, none⟩ = some (.int .u8 d) := hfl 1 (by decide)
      clear hown hA hcell hcl hlen hf2 hx hcj hRx hfl
      go_wp2_with (go_at_call 61; refine (pctype_any d y3 y4 y2 _).mono ?_; rintro e w5 ⟨rfl, hb5⟩; replace hb5 := Lib.hid hb5)
      go_roundw
      case rel =>
        have hb6 : Below wr.heap.size wr w5 := ((Below.refl _ _).alloc (Nat.le_refl _) _).trans (hb5.out.mono (by simp))
        exact ⟨j + 1, d, by omega, by go_num, by first | rfl | (rw [hDd]), HB.out.2, Lib.hid ⟨.inr rfl, hS.out.2.1.trans (hb6.mono hS.out.2.1.size), hS.out.2.2.old hb6 hS.out.2.2.lt⟩⟩
      case measure => simp [intOf]; omega
    · have hjn : j = n := by omega
      subst hjn
      have hDd' : D = d := by rcases hS.out.1 with h | h; omega; exact h
      subst hDd'
      have hg0 : ∀ u k, ccs.flatten[k]? = some u → wr.cell? ((⟨g, 0, none⟩ : Addr).add k) = some u := by
        intro u k hu
        rw [show (⟨g, 0, none⟩ : Addr).add k = ⟨g, k, none⟩ by unfold Addr.add; split <;> simp_all, hS.out.2.1.cell (p := ⟨g, k, none⟩) hg, HP.out.2.2.1 k (lt_of_get' hu), hu]
      have hone : ∀ u ∈ ccs.flatten, u.oneCell' = true := by
        intro u hu
        obtain ⟨c, hc, huc⟩ := List.mem_flatten.1 hu
        exact All2.left (P := fun c => ∀ u ∈ c, u.oneCell' = true) (fun a b h => (SKc.rep (LSc.rep d) 126 d (by decide)).one F w a b h) HP.out.2.1 c hc u huc
      have HG := Lib.hid (And.intro hg0 hone); clear hg0 hone
      obtain ⟨o0, o1⟩ : wr.cell? ⟨w.heap.size, 0, none⟩ = some (.slice none 0 0) ∧ wr.cell? ⟨w.heap.size, 1, none⟩ = some (.int .u8 0) := ⟨hS.out.2.2.cell 0 rfl, hS.out.2.2.cell 1 rfl⟩
      go_upto_region 10 with (at_builtin; refine wpList_append_lies _ rfl _ _ 50 rfl (w.heap.size + 1) 81 i0 _ 2 32 Tryz.underlying50 hi hz0 hz1 hz2 rfl (by decide) (.slice none 0 0) 0 [] rfl (World.ownsRow_nil _ _ _ _) ⟨g, 0, none⟩ j c ccs.flatten rfl (by rw [HP.out.2.2.2.2.2, HP.out.2.2.2.2.1]) (fun k u hu => HG.out.1 u k hu) HG.out.2 hn0 (by unfold maxLen; omega) (by omega) hS.out.2.2.lt wr.heap.size rfl ?_; intro g3 cap w4 hown4 hg4 hat4 hlt4)
      have hg3 : g3 = wr.heap.size := by rcases hat4 with h | h; cases h; exact h
      have hk4 : ∀ k, k < wr.heap.size → w4.heap[k]? = wr.heap[k]? := fun k hk => hg4.block k hk (fun e => by cases e)
      have hwr := hS.out.2.2.lt
      have hcp : CpSt (SKc (LSc d) 126 d) 81 F j g3 cap l #[.slice none 0 0, .int .u8 0] 53 w w4 := by
        refine ⟨ccs, by simpa using hown4, All2.imp (fun c y hcy => ?_) HP.out.2.1, hS.out.2.1.grown hg4 hS.out.2.1.size (fun _ e => by cases e), hS.out.2.2.kp (hk4 _ hwr), by omega⟩
        exact (SKc.rep (LSc.rep d) 126 d (by decide)).mono _ _ _ _ _ ((SKc.rep (LSc.rep d) 126 d (by decide)).keep _ w w4 _ _ ((SKc.rep (LSc.rep d) 126 d (by decide)).nar _ _ _ _ hcy) fun k o hk ho _ => ((hk4 k (by have := hk.2; omega)).trans (hS.out.2.1.block k hk.2)).trans ho) fun k hk => .inr hk
      have HCP := Lib.hid hcp
      clear hcp hown4 hg4 hat4 hk4 hlt4 o0 o1
      have HG3 := Lib.hid (And.intro hg3 hwr); clear hg3 hwr hS HG
      have hje : j + 0 = j := rfl
      go_wp2_with fail
      go_loopw [25] (fun i wx => ∃ k : Nat, k ≤ j ∧ i = .int .i64 k ∧ RowKit.Hid (CpSt (SKc (LSc d) 126 d) 81 F j g3 cap l #[.slice none 0 0, .int .u8 0] 53 w wx)) (fun i _ => j - (intOf i).toNat)
      case atStart => exact ⟨0, Nat.zero_le _, rfl, HCP⟩
      case round =>
        obtain ⟨k, hk, rfl, hC⟩ := hrel
        by_cases hlt2 : k < j
        · obtain ⟨x, hx⟩ : ∃ x, l[k]? = some x := ⟨l[k]'(by rw [← HN.out]; exact hlt2), List.getElem?_eq_getElem _⟩
          obtain ⟨p0, p1, hRx, e0, e1, f0, f1⟩ := hC.out.cells (SKc.rep (LSc.rep d) 126 d (by decide)) k x hx HN.out.symm
          obtain ⟨y2, y3, y4, hcs⟩ := hRx.form
          obtain ⟨rfl, rfl⟩ : p0 = .slice y2 y3 y4 ∧ p1 = .int .u8 d := by
            simp only [List.cons.injEq, and_true] at hcs
            exact hcs
          obtain ⟨vK, cK, hvK, k1, k2, k3, k4⟩ := hRx
          obtain rfl : Value.slice y2 y3 y4 = vK := by simp only [List.cons.injEq, and_true] at hvK; exact hvK
          have hgw := hC.out.lt
          have hpf := polyForce_any d d _ (.slice y2 y3 y4) x _ ⟨cK, k1, k2, k3, k4⟩
          have HX := Lib.hid (And.intro hx (And.intro hpf hgw)); clear hx hcs hvK k1 k2 k3 k4 hpf hgw
          have hkj : (k : Int) < (j : Int) := by omega
          go_upto_region 14 with (go_at_call 81; refine HX.out.2.1.mono ?_; rintro e w5 ⟨a5, n5, c5, rfl, hr5, hb5⟩; obtain ⟨s0, s1, -, t0, t1, u0, u1⟩ := (hC.out.old (SKc.rep (LSc.rep d) 126 d (by decide)) hb5).cells (SKc.rep (LSc.rep d) 126 d (by decide)) k x HX.out.1 HN.out.symm; replace hb5 := Lib.hid (And.intro hb5 hr5); clear hr5)
          go_wp2_with fail
          go_roundw
          case rel =>
            have h5 := hC.out.old (SKc.rep (LSc.rep d) 126 d (by decide)) hb5.out.1
            have hx5 := hb5.out.2.mono (LSc.rep d) (F' := Fg w.heap.size g3 F) (fun k hk => by
              rcases hk with h | h
              · left; have := HX.out.2.2; omega
              · exact h.1)
            obtain ⟨cK, k1, k2, k3, k4⟩ := hx5
            exact ⟨k + 1, by omega, by go_num, Lib.hid (h5.set (SKc.rep (LSc.rep d) 126 d (by decide)) k x _ _ HX.out.1 ⟨_, cK, rfl, k1, k2, k3, k4⟩)⟩
          case measure => simp [intOf]; omega
        · have hkj : k = j := by omega
          subst hkj
          obtain ⟨ys, h1, h2, h3, h4, h5⟩ := hC.out
          have o0 := h4.cell 0 (v := Value.slice none 0 0) rfl
          have o1 := h4.cell 1 (v := Value.int .u8 0) rfl
          have f0 := h4.froz 0
          have f1 := h4.froz 1
          clear h1 h2 h3 h4 h5
          go_wp2_with fail
          obtain ⟨q1, q2⟩ := hC.out.done (SKc.rep (LSc.rep d) 126 d (by decide)) (d := d) HN.out.symm hll
          refine bodyPost_ret_by (results_cell_row rfl _ _ w.heap.size 53 _ (0, 0) _ rfl q1 Tryz.underlying53 rfl (by kernel_rfl)) rfl ?_
          exact q2
end Go.Proofs.YtblpcpkkjbkakaaGreatDoor
