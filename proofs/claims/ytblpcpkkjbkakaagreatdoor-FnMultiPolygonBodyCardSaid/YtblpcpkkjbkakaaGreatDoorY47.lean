/- Lemmas towards the seat's laws: 5 texts joined. -/
import Derived.Test.YtblpcpkkjbkakaaGreatDoorY42
import Derived.Test.YtblpcpkkjbkakaaGreatDoorY45
import Derived.Test.YtblpcpkkjbkakaaGreatDoorY39
/- The parser's small readings: EMPTY or a parenthesis; a comma or a parenthesis. -/
namespace Go.Proofs.YtblpcpkkjbkakaaGreatDoor
open Go Go.RowKit
set_option linter.unusedVariables false
set_option linter.unusedSimpArgs false

theorem want_any (a b : ByteArray) (w : World) : Calls Tryz.prog 79 #[.string a, .string b] w fun e w' => (∃ u y, e = .returned (.iface u y)) ∧ w = w' := by
  go_enter Tryz.func79, Tryz.ntmps79
  go_wp2_with fail
  go_ret
  exact ⟨⟨_, _, rfl⟩, rfl⟩
/-- A token that is one of two. -/
def TwPost (s : ByteArray) (rb B b : Nat) (A C : List UInt8) (T : List Tok) (w : World) (e : Ending) (w' : World) : Prop :=
  ∃ x v, e = .returned (.tuple #[.string x, v]) ∧ ((v = .nilIface ∧ ∃ t T', T = t :: T' ∧ x = ⟨t.2.toArray⟩ ∧ (t.2 = A ∨ t.2 = C) ∧ ∃ p', PT s rb B b p' T' w') ∨ ((∃ u y, v = .iface u y) ∧ ∀ t T', T = t :: T' → t.2 ≠ A ∧ t.2 ≠ C)) ∧ Fr B b rb w w'
set_option maxRecDepth 100000 in
set_option maxHeartbeats 4000000 in
theorem empty_pt (s : ByteArray) (rb B b p : Nat) (g gl gp : Nat × Nat) (T : List Tok) (w : World) (h : PT s rb B b p T w) (hG : GlN B g gl gp w) : Calls Tryz.prog 56 #[.pointer (some ⟨b, 0, none⟩)] w (TwPost s rb B b emptyW [40] T w) := by
  have HN := Lib.hid (next_pt s rb B b p g gl gp T w h hG)
  clear h hG
  go_enter Tryz.func56, Tryz.ntmps56
  go_upto_region 2 with (go_at_call 42; refine HN.out.mono ?_; rintro e w1 ⟨x, v, rfl, hk, hfr⟩)
  rcases hk with ⟨rfl, y, rfl⟩ | ⟨t, T', rfl, rfl, rfl, p', hpt⟩
  · go_wp2_with fail
    go_ret2
    exact ⟨_, _, rfl, .inr ⟨⟨_, _, rfl⟩, fun t T' h => by cases h⟩, hfr⟩
  · have HF := Lib.hid (And.intro hpt hfr); clear hpt hfr
    by_cases he : t.2 = emptyW
    · have hb : (t.2 == [69, 77, 80, 84, 89]) = true := by rw [he]; rfl
      have HE := Lib.hid he; clear he
      go_wp2_with fail
      go_ret2
      exact ⟨_, _, rfl, .inl ⟨rfl, t, T', rfl, rfl, .inl HE.out, p', HF.out.1⟩, HF.out.2⟩
    · have hb : (t.2 == [69, 77, 80, 84, 89]) = false := by rw [beq_eq_false_iff_ne]; exact he
      by_cases h4 : t.2 = [40]
      · have hb2 : (t.2 == [40]) = true := by rw [h4]; rfl
        have HE := Lib.hid (And.intro he h4); clear he h4
        go_wp2_with fail
        go_ret2
        exact ⟨_, _, rfl, .inl ⟨rfl, t, T', rfl, rfl, .inr HE.out.2, p', HF.out.1⟩, HF.out.2⟩
      · have hb2 : (t.2 == [40]) = false := by rw [beq_eq_false_iff_ne]; exact h4
        have HE := Lib.hid (And.intro he h4); clear he h4
        go_wp2_with (go_at_call 79; refine (want_any _ _ _).mono ?_; rintro e w' ⟨⟨u, y, rfl⟩, rfl⟩)
        go_ret2
        exact ⟨_, _, rfl, .inr ⟨⟨_, _, rfl⟩, fun t' T'' h => by cases h; exact HE.out⟩, HF.out.2⟩
set_option maxRecDepth 100000 in
set_option maxHeartbeats 4000000 in
theorem comma_pt (s : ByteArray) (rb B b p : Nat) (g gl gp : Nat × Nat) (T : List Tok) (w : World) (h : PT s rb B b p T w) (hG : GlN B g gl gp w) : Calls Tryz.prog 58 #[.pointer (some ⟨b, 0, none⟩)] w (TwPost s rb B b [41] [44] T w) := by
  have HN := Lib.hid (next_pt s rb B b p g gl gp T w h hG)
  clear h hG
  go_enter Tryz.func58, Tryz.ntmps58
  go_upto_region 2 with (go_at_call 42; refine HN.out.mono ?_; rintro e w1 ⟨x, v, rfl, hk, hfr⟩)
  rcases hk with ⟨rfl, y, rfl⟩ | ⟨t, T', rfl, rfl, rfl, p', hpt⟩
  · go_wp2_with fail
    go_ret2
    exact ⟨_, _, rfl, .inr ⟨⟨_, _, rfl⟩, fun t T' h => by cases h⟩, hfr⟩
  · have HF := Lib.hid (And.intro hpt hfr); clear hpt hfr
    by_cases he : t.2 = [41]
    · have hb : (t.2 == [41]) = true := by rw [he]; rfl
      have HE := Lib.hid he; clear he
      go_wp2_with fail
      go_ret2
      exact ⟨_, _, rfl, .inl ⟨rfl, t, T', rfl, rfl, .inl HE.out, p', HF.out.1⟩, HF.out.2⟩
    · have hb : (t.2 == [41]) = false := by rw [beq_eq_false_iff_ne]; exact he
      by_cases h4 : t.2 = [44]
      · have hb2 : (t.2 == [44]) = true := by rw [h4]; rfl
        have HE := Lib.hid (And.intro he h4); clear he h4
        go_wp2_with fail
        go_ret2
        exact ⟨_, _, rfl, .inl ⟨rfl, t, T', rfl, rfl, .inr HE.out.2, p', HF.out.1⟩, HF.out.2⟩
      · have hb2 : (t.2 == [44]) = false := by rw [beq_eq_false_iff_ne]; exact h4
        have HE := Lib.hid (And.intro he h4); clear he h4
        go_wp2_with (go_at_call 79; refine (want_any _ _ _).mono ?_; rintro e w' ⟨⟨u, y, rfl⟩, rfl⟩)
        go_ret2
        exact ⟨_, _, rfl, .inr ⟨⟨_, _, rfl⟩, fun t' T'' h => by cases h; exact HE.out⟩, HF.out.2⟩
end Go.Proofs.YtblpcpkkjbkakaaGreatDoor
/- The parser's reading of one place's numbers behind others. -/
namespace Go.Proofs.YtblpcpkkjbkakaaGreatDoor
open Go Go.RowKit
set_option linter.unusedVariables false
set_option linter.unusedSimpArgs false

/-- What lies below a place stands, but the parser's own and bytes. -/
def Fb (base B b rb : Nat) (w w' : World) : Prop := Below B w w' ∧ ∀ k o, k < base → w.heap[k]? = some o → k ≠ b → k ≠ rb → (∀ c fz, o ≠ .cells c 5 fz) → w'.heap[k]? = some o
theorem Fb.refl (base B b rb : Nat) (w : World) : Fb base B b rb w w := ⟨Below.refl _ _, fun _ _ _ h _ _ _ => h⟩
theorem Fb.trans {base B b rb : Nat} {w w1 w2 : World} (h : Fb base B b rb w w1) (k : Fb base B b rb w1 w2) : Fb base B b rb w w2 :=
  ⟨h.1.trans k.1, fun i o hi ho h1 h2 h3 => k.2 i o hi (h.2 i o hi ho h1 h2 h3) h1 h2 h3⟩
theorem Fb.ofFr {base B b rb : Nat} {w w1 : World} (h : Fr B b rb w w1) : Fb base B b rb w w1 := ⟨h.1, fun k o _ ho => h.2 k o ho⟩
theorem Fb.fr {B b rb : Nat} {w w1 : World} (h : Fb w.heap.size B b rb w w1) : Fr B b rb w w1 := ⟨h.1, fun k o ho => h.2 k o (Array.getElem?_eq_some_iff.1 ho).1 ho⟩
theorem Fb.grown {base B b rb : Nat} {w w1 w2 : World} {row : Option Nat} (h : Fb base B b rb w w1) (hg : w1.grownBy w2 row) (hB : B ≤ base) (hs : base ≤ w1.heap.size) (hr : ∀ k, row = some k → base ≤ k) : Fb base B b rb w w2 :=
  ⟨h.1.grown hg (by omega) (fun k hk => by have := hr k hk; omega), fun k o hk ho h1 h2 h3 => (hg.block k (by omega) (fun e => by have := hr k e.symm; omega)).trans (h.2 k o hk ho h1 h2 h3)⟩
theorem Fb.old {base B b rb : Nat} {w w1 w2 : World} (h : Fb base B b rb w w1) (hb : Below w1.heap.size w1 w2) (hB : B ≤ base) (hs : base ≤ w1.heap.size) : Fb base B b rb w w2 :=
  ⟨h.1.trans (hb.mono (by omega)), fun k o hk ho h1 h2 h3 => (hb.block k (by omega)).trans (h.2 k o hk ho h1 h2 h3)⟩
theorem own_fr {base e sz n B b rb : Nat} {w w' : World} {v : Value} {xs : List Value} (h : w.ownsRow base e sz v n xs) (hf : Fr B b rb w w') (hb : b < base) (hr : rb < base) (he : e ≠ 5) : w'.ownsRow base e sz v n xs := by
  obtain ⟨h1, h2⟩ := h
  refine ⟨h1, ?_⟩
  rcases h2 with h | ⟨g, cap, cur, hv, hgb, hg, h5⟩
  · exact .inl h
  · exact .inr ⟨g, cap, cur, hv, hgb, hf.2 g _ hg (by omega) (by omega) (fun c fz e' => by cases e'; exact he rfl), h5⟩
theorem IsB.grown {B b : Nat} {R : Nat → Option Value} {tb : List UInt8} {w w' : World} {row : Option Nat} (h : IsB B b R tb w) (hg : w.grownBy w' row) (hr : ∀ k, row = some k → k ≠ b ∧ ∃ c fz t, w.heap[k]? = some (.cells c t fz) ∧ t ≠ 5) : IsB B b R tb w' := by
  have hlt := h.lt
  obtain ⟨hB, v0, lr, hbk, hown, hnb⟩ := h
  refine ⟨hB, v0, lr, hbk.of_heap (hg.block b hlt (fun e => (hr b e.symm).1 rfl)), ⟨hown.1, ?_⟩, hnb⟩
  rcases hown.2 with hn | ⟨g, cap, cur, hv, hBg, hh, rest⟩
  · exact .inl hn
  · refine .inr ⟨g, cap, cur, hv, hBg, ?_, rest⟩
    rw [hg.block g (Array.getElem?_eq_some_iff.1 hh).1 (fun e => ?_)]
    · exact hh
    · obtain ⟨-, c, fz, t, h1, h2⟩ := hr g e.symm
      rw [hh] at h1
      exact h2 (by injection h1 with h1; injection h1 with _ h3; exact h3.symm)
theorem St.grown {s : ByteArray} {rb B b : Nat} {F : Nat → Option Value} {q la : Nat} {T : Option Nat} {w w' : World} {row : Option Nat} (h : St s rb B b F q la T w) (hg : w.grownBy w' row) (hr : ∀ k, row = some k → (k ≠ b ∧ k ≠ rb) ∧ ∃ c fz t, w.heap[k]? = some (.cells c t fz) ∧ t ≠ 5) : St s rb B b F q la T w' := by
  obtain ⟨R, pos, en, off, tb, hI, hk, hT, hq, hF, hrb, hne, p, hh⟩ := h
  exact ⟨R, pos, en, off, tb, hI.grown hg (fun k hk => ⟨(hr k hk).1.1, (hr k hk).2⟩), hk, hT, hq, hF, hrb, hne, p, (hg.block _ (Array.getElem?_eq_some_iff.1 hh).1 (fun e => (hr _ e.symm).1.2 rfl)).trans hh⟩
theorem PT.grown {s : ByteArray} {rb B b p : Nat} {T : List Tok} {w w' : World} {row : Option Nat} (h : PT s rb B b p T w) (hg : w.grownBy w' row) (hr : ∀ k, row = some k → (k ≠ b ∧ k ≠ rb) ∧ ∃ c fz t, w.heap[k]? = some (.cells c t fz) ∧ t ≠ 5) : PT s rb B b p T w' := by
  obtain ⟨⟨F, h1, h2⟩, h3, h4, h5, h6⟩ := h
  refine ⟨⟨F, h1, ?_⟩, h3, h4, h5, h6⟩
  rcases h2 with ⟨k1, k2, T2, k3⟩ | ⟨k2, T2, k3⟩
  · exact .inl ⟨k1, k2, T2, k3.grown hg hr⟩
  · exact .inr ⟨k2, T2, k3.grown hg hr⟩
theorem own_typ {base e sz n : Nat} {w : World} {v : Value} {xs : List Value} (h : w.ownsRow base e sz v n xs) {k : Nat} (hk : v.ownBlock = some k) : ∃ c fz, w.heap[k]? = some (.cells c e fz) := by
  rcases h.2 with ⟨rfl, -⟩ | ⟨g, cap, cur, rfl, hb, hg, -⟩
  · cases hk
  · have : g = k := by simpa [Value.ownBlock] using hk
    subst this
    exact ⟨_, _, hg⟩
theorem plS_up {T : List Tok} {j : Nat} (h : plS j T = none) : ∀ m, j ≤ m → plS m T = none
  | 0, hm => by obtain rfl : j = 0 := by omega
                exact h
  | m + 1, hm => by
    by_cases e : j = m + 1
    · rw [← e]; exact h
    · unfold plS; rw [plS_up h m (by omega)]
theorem fcells_app3 (xs ys : List Nat) : fcells (xs ++ ys) = fcells xs ++ fcells ys := by unfold fcells; rw [List.map_append]
def PaPost (s : ByteArray) (base rb B b d n : Nat) (xs : List Nat) (T : List Tok) (w : World) (e : Ending) (w' : World) : Prop :=
  ∃ v err, e = .returned (.tuple #[v, err]) ∧ ((∃ ys T', plS (wid d) T = some (ys, T') ∧ err = .nilIface ∧ w'.ownsRow base 25 1 v (n + wid d) (fcells (xs ++ ys)) ∧ ∃ p', PT s rb B b p' T' w') ∨ (plS (wid d) T = none ∧ (∃ u y, err = .iface u y) ∧ ∃ a n c, v = .slice a n c)) ∧ Fb base B b rb w w'
set_option maxRecDepth 100000 in
set_option maxHeartbeats 4000000 in
theorem append_pt (s : ByteArray) (base rb B b p d n : Nat) (g gl gp : Nat × Nat) (xs : List Nat) (v : Value) (T : List Tok) (w : World) (hs : s.size ≤ 2000) (hd : d < 4) (h : PT s rb B b p T w) (hG : GlN B g gl gp w) (hown : w.ownsRow base 25 1 v n (fcells xs)) (hn : n ≤ 400000) (hb : b < base) (hr : rb < base) (hB : B ≤ base) (hbs : base ≤ w.heap.size) :
    Calls Tryz.prog 138 #[.pointer (some ⟨b, 0, none⟩), v, .int .u8 d] w (PaPost s base rb B b d n xs T w) := by
  obtain ⟨i0, hi, hz0, hz1, hz2⟩ := info_parts info25
  have hdn := fun W => dimn_any d W hd
  have hw2 : 2 ≤ wid d ∧ wid d ≤ 4 := by unfold wid; omega
  have HP := Lib.hid (And.intro h (And.intro hG (And.intro hown (And.intro hb (And.intro hr (And.intro hB hbs))))))
  clear h hG hown hb hr hB hbs
  obtain ⟨wd, hwd⟩ : ∃ wd, wd = wid d := ⟨_, rfl⟩
  rw [← hwd] at hdn hw2
  have HD := Lib.hid (And.intro hdn hwd); clear hdn hwd
  go_enter Tryz.func138, Tryz.ntmps138
  go_wp2_with fail
  go_loopw [1, 8] (fun dv i wr => ∃ j : Nat, j ≤ wd ∧ i = .int .i64 j ∧ RowKit.Hid (∃ ys Tj pj, plS j T = some (ys, Tj) ∧ wr.ownsRow base 25 1 dv (n + j) (fcells (xs ++ ys)) ∧ PT s rb B b pj Tj wr ∧ Fb base B b rb w wr ∧ base ≤ wr.heap.size)) (fun _ i _ => wd - (intOf i).toNat)
  case atStart => exact ⟨0, Nat.zero_le _, rfl, Lib.hid ⟨[], T, p, rfl, by simpa using HP.out.2.2.1, HP.out.1, Fb.refl _ _ _ _ _, HP.out.2.2.2.2.2.2⟩⟩
  case round =>
    obtain ⟨j, hj, rfl, hS⟩ := hrel
    obtain ⟨ys, Tj, pj, hpl, hown, hpt, hfb, hbs⟩ := hS.out
    by_cases hlt : j < wd
    · have hG := HP.out.2.1.keep hfb.1
      have hsg := signed_pt s rb B b pj g gl gp Tj wr hs hpt hG
      have HS := Lib.hid (And.intro hpl (And.intro hown (And.intro hfb hbs)))
      obtain ⟨X, hX⟩ : ∃ X, X = numX Tj := ⟨_, rfl⟩
      rw [← hX] at hsg
      have HG := Lib.hid (And.intro hsg hX)
      clear hpl hown hpt hfb hbs hG hsg hX hS
      go_upto_region 5 with (first | (go_at_call 142; refine (HD.out.1 _).mono ?_; rintro e w' ⟨rfl, rfl⟩) | (go_at_call 27; refine HG.out.1.mono ?_; rintro e w1 ⟨f, v, rfl, hk, hfr⟩))
      rcases hk with ⟨T', hx, rfl, p', hpt⟩ | ⟨hx, u, y, rfl⟩
      · have hown1 := own_fr HS.out.2.1 hfr HP.out.2.2.2.1 HP.out.2.2.2.2.1 (by decide)
        have hfb1 : Fb base B b rb w w1 := HS.out.2.2.1.trans (Fb.ofFr hfr)
        have hbs1 : base ≤ w1.heap.size := Nat.le_trans HS.out.2.2.2 hfr.1.size
        have HT := Lib.hid (And.intro hown1 (And.intro hfb1 (And.intro hbs1 (And.intro hx hpt))))
        clear hown1 hfb1 hbs1 hx hpt hfr
        go_wp2_with (at_builtin; refine wpList_append_lies _ rfl _ _ 42 rfl base 25 i0 (.float .f64 0) 1 8 Tryz.underlying42 hi hz0 hz1 hz2 rfl (by decide) u1 (n + j) (fcells (xs ++ ys)) rfl (HT.out.1.alloc _) ⟨w1.heap.size, 0, none⟩ 1 1 [_] rfl rfl (cells_lit1 _ _ _ _ rfl) (by intro u hu; simp at hu; subst hu; rfl) (by omega) (by unfold maxLen; omega) (by omega) (by have := HT.out.2.2.1; simp; omega) _ rfl ?_; intro g3 cap w5 hown5 hg5 hat5 hlt5)
        go_roundw
        case rel =>
          obtain ⟨t1, t2, t3, t4, t5⟩ := HT.out
          have hal : Below w1.heap.size w1 (w1.alloc (.cells #[.float .f64 f] 25)) := (Below.refl _ _).alloc (Nat.le_refl _) _
          have hrow : ∀ k, u1.ownBlock = some k → base ≤ k := fun k hk => (t1.lt k hk).1
          have hgr : w1.grownBy w5 u1.ownBlock := ⟨hg5.os, hg5.tape, hg5.output, by have := hg5.size; simp at this; omega, fun k hk hne => (hg5.block k (by simp; omega) hne).trans (Below.heap_alloc _ _ _ hk)⟩
          refine ⟨j + 1, by omega, by go_num, Lib.hid ⟨ys ++ [f], T', p', ?_, ?_, ?_, t2.grown hgr HP.out.2.2.2.2.2.1 t3 hrow, Nat.le_trans t3 hgr.size⟩⟩
          · unfold plS
            rw [HS.out.1]
            simp only [← HG.out.2, t4]
          · rw [← List.append_assoc, fcells_app3 (xs ++ ys)]
            exact hown5
          · refine PT.grown t5 hgr fun k hk => ?_
            obtain ⟨cc, fz, hh⟩ := own_typ t1 hk
            have := hrow k hk
            exact ⟨⟨by have := HP.out.2.2.2.1; omega, by have := HP.out.2.2.2.2.1; omega⟩, cc, fz, _, hh, by decide⟩
        case measure => simp [intOf]; omega
      · have hfb1 : Fb base B b rb w w1 := HS.out.2.2.1.trans (Fb.ofFr hfr)
        have HT := Lib.hid (And.intro hfb1 hx)
        clear hfb1 hx hfr
        go_wp2_with fail
        go_ret2
        refine ⟨_, _, rfl, .inr ⟨?_, ⟨_, _, rfl⟩, _, _, _, rfl⟩, HT.out.1⟩
        rw [← HD.out.2]
        refine plS_up (j := j + 1) ?_ wd (by omega)
        unfold plS
        rw [HS.out.1]
        simp only [← HG.out.2, HT.out.2]
    · have hjn : j = wd := by omega
      subst hjn
      have HS := Lib.hid (And.intro hpl (And.intro hown (And.intro hpt hfb)))
      clear hpl hown hpt hfb hS hbs
      go_wp2_with (go_at_call 142; refine (HD.out.1 _).mono ?_; rintro e w' ⟨rfl, rfl⟩)
      go_ret2
      refine ⟨_, _, rfl, .inl ⟨ys, Tj, ?_, rfl, ?_, pj, HS.out.2.2.1⟩, HS.out.2.2.2⟩
      · rw [← HD.out.2]; exact HS.out.1
      · rw [← HD.out.2]; exact HS.out.2.1
end Go.Proofs.YtblpcpkkjbkakaaGreatDoor
/- The parser's data: lines, polygons; the plain law of its loops; small functions. -/
namespace Go.Proofs.YtblpcpkkjbkakaaGreatDoor
open Go Go.RowKit
set_option linter.unusedVariables false
set_option linter.unusedSimpArgs false

/-- Behind a part: the end, or a comma and more parts. -/
def contP {α : Type} (f : List Tok → Option (α × List Tok)) (n : Nat) : List Tok → Option (List α × List Tok)
  | [] => none
  | t :: T2 => if t.1 = 41 then some ([], T2) else if t.1 = 44 then mny f n T2 else none
theorem contP_cons {α : Type} (f : List Tok → Option (α × List Tok)) (n : Nat) (t : Tok) (T2 : List Tok) : contP f n (t :: T2) = if t.1 = 41 then some ([], T2) else if t.1 = 44 then mny f n T2 else none := rfl
theorem mny_cont {α : Type} {f : List Tok → Option (α × List Tok)} {n : Nat} {T T1 : List Tok} {x : α} (h : f T = some (x, T1)) : mny f (n + 1) T = (contP f n T1).map fun y => (x :: y.1, y.2) := by
  unfold mny
  rw [h]
  cases T1 with
  | nil => rfl
  | cons t T2 =>
    unfold contP
    simp only []
    split
    · rfl
    · split
      · rfl
      · rfl
/-- The loop's state: what was read, what is ahead. -/
def CtRel {α : Type} (f : List Tok → Option (α × List Tok)) (X : Option (List α × List Tok)) (l : List α) (Tj : List Tok) : Prop := ∃ n, Tj.length ≤ n + 1 ∧ X = (contP f n Tj).map fun y => (l ++ y.1, y.2)
theorem CtRel.start {α : Type} {f : List Tok → Option (α × List Tok)} (h0 : f [] = none) {t : Tok} {T1 Tj : List Tok} {x : α} (ht : t.1 = 40) (h : f T1 = some (x, Tj)) (hs : Tj.length ≤ T1.length) : CtRel f (bodyP f (t :: T1)) [x] Tj := by
  obtain ⟨m, hm⟩ := mny_pos h0 (Nat.le_refl _) h
  refine ⟨m, by omega, ?_⟩
  rw [bodyP_cons, if_neg (fun e => by rw [ht] at e; exact absurd e.1 (by decide)), if_pos ht, hm, mny_cont h]
  rfl
theorem CtRel.comma {α : Type} {f : List Tok → Option (α × List Tok)} (h0 : f [] = none) {X : Option (List α × List Tok)} {l : List α} {t : Tok} {T2 T3 : List Tok} {x : α} (h : CtRel f X l (t :: T2)) (ht : t.1 = 44) (hx : f T2 = some (x, T3)) (hs : T3.length ≤ T2.length) : CtRel f X (l ++ [x]) T3 := by
  obtain ⟨n, hn, hX⟩ := h
  simp only [List.length_cons] at hn
  obtain ⟨m, rfl⟩ := mny_pos h0 (show T2.length ≤ n by omega) hx
  refine ⟨m, by omega, ?_⟩
  rw [hX]
  rw [contP_cons, if_neg (by rw [ht]; decide), if_pos ht, mny_cont hx, Option.map_map]
  congr 1
  funext y
  simp [Function.comp]
theorem CtRel.bad {α : Type} {f : List Tok → Option (α × List Tok)} {X : Option (List α × List Tok)} {l : List α} {t : Tok} {T2 : List Tok} (h : CtRel f X l (t :: T2)) (ht : t.1 = 44) (hx : f T2 = none) : X = none := by
  obtain ⟨n, hn, hX⟩ := h
  rw [hX]
  rw [contP_cons, if_neg (by rw [ht]; decide), if_pos ht, mny_none hx]
  rfl
theorem CtRel.fin {α : Type} {f : List Tok → Option (α × List Tok)} {X : Option (List α × List Tok)} {l : List α} {t : Tok} {T2 : List Tok} (h : CtRel f X l (t :: T2)) (ht : t.1 = 41) : X = some (l, T2) := by
  obtain ⟨n, hn, hX⟩ := h
  rw [hX]
  rw [contP_cons, if_pos ht]
  simp
theorem CtRel.none {α : Type} {f : List Tok → Option (α × List Tok)} {X : Option (List α × List Tok)} {l : List α} {Tj : List Tok} (h : CtRel f X l Tj) (ht : ∀ t T2, Tj = t :: T2 → t.1 ≠ 41 ∧ t.1 ≠ 44) : X = none := by
  obtain ⟨n, hn, hX⟩ := h
  rw [hX]
  cases Tj with
  | nil => rfl
  | cons t T2 =>
    obtain ⟨h1, h2⟩ := ht t T2 rfl
    rw [contP_cons, if_neg h1, if_neg h2]
    rfl
theorem bodyP_bad {α : Type} {f : List Tok → Option (α × List Tok)} {t : Tok} {T1 : List Tok} (ht : t.1 = 40) (h : f T1 = none) : bodyP f (t :: T1) = none := by
  rw [bodyP_cons, if_neg (fun e => by rw [ht] at e; exact absurd e.1 (by decide)), if_pos ht, mny_none h]
theorem bodyP_not {α : Type} {f : List Tok → Option (α × List Tok)} {T : List Tok} (h : ∀ t T', T = t :: T' → t.2 ≠ emptyW ∧ t.1 ≠ 40) : bodyP f T = none := by
  cases T with
  | nil => rfl
  | cons t T1 =>
    obtain ⟨h1, h2⟩ := h t T1 rfl
    rw [bodyP_cons, if_neg (fun e => h1 e.2), if_neg h2]
theorem bodyP_empty {α : Type} {f : List Tok → Option (α × List Tok)} {t : Tok} {T1 : List Tok} (h1 : t.1 = 97) (h2 : t.2 = emptyW) : bodyP f (t :: T1) = some ([], T1) := by
  rw [bodyP_cons, if_pos ⟨h1, h2⟩]
theorem tok_text {t : Tok} {c : UInt8} (h : TokOk t) (hc : c = 40 ∨ c = 41 ∨ c = 44) (e : t.2 = [c]) : t.1 = c := by
  rcases h with ⟨-, -, h3⟩ | ⟨-, -, h3⟩ | ⟨-, h2⟩
  · rw [e] at h3; rcases hc with rfl | rfl | rfl <;> exact absurd h3 (by decide)
  · rw [e] at h3; rcases hc with rfl | rfl | rfl <;> exact absurd h3 (by decide)
  · rw [e] at h2; exact (List.cons.inj h2).1.symm
theorem tok_emptyW {t : Tok} (h : TokOk t) (e : t.2 = emptyW) : t.1 = 97 := by
  rcases h with ⟨h1, -⟩ | ⟨-, -, h3⟩ | ⟨-, h2⟩
  · exact h1
  · rw [e] at h3; exact absurd h3 (by decide)
  · rw [e] at h2; exact absurd (congrArg List.length h2) (by simp [emptyW])
theorem PT.ok {s : ByteArray} {rb B b p : Nat} {T : List Tok} {w : World} (h : PT s rb B b p T w) : ∀ t ∈ T, TokOk t := by
  obtain ⟨j, hj⟩ := h.tk
  exact toks_ok hj
theorem Loc.len {α : Type} {f : List Tok → Option (α × List Tok)} {A : List Tok → Prop} (h : Loc f A) {T T' : List Tok} {x : α} (hok : ∀ t ∈ T, TokOk t) (hx : f T = some (x, T')) : T'.length ≤ T.length ∧ (∀ t ∈ T', TokOk t) := by
  obtain ⟨P, e, -, -⟩ := h T x T' hok hx
  exact ⟨by rw [e, List.length_append]; omega, fun t ht => hok t (by rw [e]; exact List.mem_append_right _ ht)⟩

/-- How the parser's data lie in memory. -/
structure Rep2 {α : Type} (R : (Nat → Prop) → World → List Value → α → Prop) : Prop where
  len : ∀ F w cs x, R F w cs x → cs.length = 2
  one : ∀ F w cs x, R F w cs x → ∀ u ∈ cs, u.oneCell' = true
  keep : ∀ F w w' cs x, R F w cs x → (∀ k o, F k → w.heap[k]? = some o → (∀ c fz, o ≠ .cells c 5 fz) → w'.heap[k]? = some o) → R F w' cs x
  nar : ∀ F w cs x, R F w cs x → R (fun k => F k ∧ k < w.heap.size) w cs x
  mono : ∀ (F F' : Nat → Prop) w cs x, R F w cs x → (∀ k, F k → F' k) → R F' w cs x
theorem ownsRow_kept {base e sz n : Nat} {w w' : World} {v : Value} {xs : List Value} (h : w.ownsRow base e sz v n xs) (he : e ≠ 5) (hk : ∀ k o, v.ownBlock = some k → w.heap[k]? = some o → (∀ c fz, o ≠ .cells c 5 fz) → w'.heap[k]? = some o) : w'.ownsRow base e sz v n xs := by
  obtain ⟨h1, h2⟩ := h
  refine ⟨h1, ?_⟩
  rcases h2 with h | ⟨g, cap, cur, hv, hb, hg, h5⟩
  · exact .inl h
  · subst hv
    exact .inr ⟨g, cap, cur, rfl, hb, hk g _ rfl hg (fun c fz e' => by cases e'; exact he rfl), h5⟩
def LSc (d : Nat) (F : Nat → Prop) (w : World) (cs : List Value) (xs : List Nat) : Prop :=
  ∃ vN, cs = [.int .u8 d, vN] ∧ w.ownsRow 0 25 1 vN xs.length (fcells xs) ∧ (∀ k, vN.ownBlock = some k → F k) ∧ LnOk d xs
def SKc {α : Type} (R : (Nat → Prop) → World → List Value → α → Prop) (e d : Nat) (F : Nat → Prop) (w : World) (cs : List Value) (l : List α) : Prop :=
  ∃ vK ccs, cs = [vK, .int .u8 d] ∧ w.ownsRow 0 e 2 vK l.length ccs.flatten ∧ (∀ k, vK.ownBlock = some k → F k) ∧ All2 (R F w) ccs l ∧ l.length ≤ 100000
theorem LSc.rep (d : Nat) : Rep2 (LSc d) where
  len := by rintro F w cs x ⟨vN, rfl, -⟩; rfl
  one := by
    rintro F w cs x ⟨vN, rfl, h, -⟩ u hu
    simp only [List.mem_cons, List.not_mem_nil, or_false] at hu
    rcases hu with rfl | rfl
    · rfl
    · exact ownsRow_one h
  keep := by
    rintro F w w' cs x ⟨vN, rfl, h, hF, ho⟩ hk
    exact ⟨vN, rfl, ownsRow_kept h (by decide) fun k o hv => hk k o (hF k hv), hF, ho⟩
  nar := by
    rintro F w cs x ⟨vN, rfl, h, hF, ho⟩
    exact ⟨vN, rfl, h, fun k hv => ⟨hF k hv, (h.lt k hv).2⟩, ho⟩
  mono := by
    rintro F F' w cs x ⟨vN, rfl, h, hF, ho⟩ hm
    exact ⟨vN, rfl, h, fun k hv => hm k (hF k hv), ho⟩
theorem SKc.rep {α : Type} {R : (Nat → Prop) → World → List Value → α → Prop} (hR : Rep2 R) (e d : Nat) (he : e ≠ 5) : Rep2 (SKc R e d) where
  len := by rintro F w cs x ⟨vN, ccs, rfl, -⟩; rfl
  one := by
    rintro F w cs x ⟨vN, ccs, rfl, h, -⟩ u hu
    simp only [List.mem_cons, List.not_mem_nil, or_false] at hu
    rcases hu with rfl | rfl
    · exact ownsRow_one h
    · rfl
  keep := by
    rintro F w w' cs x ⟨vN, ccs, rfl, h, hF, hA, ho⟩ hk
    exact ⟨vN, ccs, rfl, ownsRow_kept h he fun k o hv => hk k o (hF k hv), hF, All2.imp (fun a b hab => hR.keep F w w' a b hab hk) hA, ho⟩
  nar := by
    rintro F w cs x ⟨vN, ccs, rfl, h, hF, hA, ho⟩
    exact ⟨vN, ccs, rfl, h, fun k hv => ⟨hF k hv, (h.lt k hv).2⟩, All2.imp (fun a b hab => hR.nar F w a b hab) hA, ho⟩
  mono := by
    rintro F F' w cs x ⟨vN, ccs, rfl, h, hF, hA, ho⟩ hm
    exact ⟨vN, ccs, rfl, h, fun k hv => hm k (hF k hv), All2.imp (fun a b hab => hR.mono F F' w a b hab hm) hA, ho⟩
/-- The outcome of the parser's reading of a body. -/
def BpPost {α : Type} (R : (Nat → Prop) → World → List Value → α → Prop) (zs : List Value) (X : Option (α × List Tok)) (s : ByteArray) (rb B b : Nat) (w : World) (e : Ending) (w' : World) : Prop :=
  ∃ cs err, e = .returned (.tuple #[.agg ⟨cs⟩, err]) ∧ ((∃ x T', X = some (x, T') ∧ err = .nilIface ∧ R (fun k => w.heap.size ≤ k) w' cs x ∧ ∃ p', PT s rb B b p' T' w') ∨ (X = none ∧ cs = zs ∧ ∃ u y, err = .iface u y)) ∧ Fr B b rb w w'
set_option maxRecDepth 100000 in
theorem newSeq_any (d p n c : Nat) (a : Option Addr) (w : World) (hd : d < 4) (hn : n = p * wid d) (hp : p ≤ 100000) : Calls Tryz.prog 139 #[.slice a n c, .int .u8 d] w fun e w' => e = .returned (.agg #[.int .u8 d, .slice a n c]) ∧ Below w.heap.size w w' := by
  have hdn := fun W => dimn_any d W hd
  have hw0 : 0 < wid d := by unfold wid; omega
  have hr : ((n : Int)).tmod (wid d : Nat) = 0 := by rw [hn, Int.natCast_mul]; exact Int.mul_tmod_left ..
  generalize wid d = wd at hdn hr hw0
  have HD := Lib.hid hdn; clear hdn hn
  go_enter Tryz.func139, Tryz.ntmps139
  go_wp2_with (go_at_call 142; refine (HD.out _).mono ?_; rintro e w' ⟨rfl, rfl⟩)
  exact bodyPost_ret_by (results_cell_row rfl _ _ w.heap.size 124 _ (0, 0) _ rfl (heap_new _ _) Tryz.underlying124 rfl (by kernel_rfl)) rfl ⟨rfl, (Below.refl _ _).alloc (Nat.le_refl _) _⟩
set_option maxRecDepth 100000 in
theorem newLine_any (d n c : Nat) (a : Option Addr) (w : World) : Calls Tryz.prog 140 #[.agg #[.int .u8 d, .slice a n c]] w fun e w' => e = .returned (.agg #[.int .u8 d, .slice a n c]) ∧ Below w.heap.size w w' := by
  go_enter Tryz.func140, Tryz.ntmps140
  go_wp2_with fail
  exact bodyPost_ret_by (results_cell_row rfl _ _ (w.heap.size + 1) 126 _ (0, 0) _ rfl (heap_new2 _ _ _) Tryz.underlying126 rfl (by kernel_rfl)) rfl ⟨rfl, below2 _ _ _⟩
end Go.Proofs.YtblpcpkkjbkakaaGreatDoor
/- A sequence of places as a plain line. -/
namespace Go.Proofs.YtblpcpkkjbkakaaGreatDoor
open Go Go.RowKit
set_option linter.unusedVariables false
set_option linter.unusedSimpArgs false

/-- A parameter's box in block N, the result's cells behind it, the geometry that is made in block M. -/
structure F4 (N M : Nat) (t : TypeId) (cs : Array Value) (kk d : Nat) (vN vK : Value) (w wr : World) : Prop where
  rb : Rw N cs t wr
  ro : Rw (N + 1) #[.int .i64 0, .int .i64 0, .slice none 0 0, .slice none 0 0] 45 wr
  rm : Rw M #[.int .i64 kk, .int .i64 d, vN, vK] 45 wr
  bl : Below N w wr
  lt : N + 2 ≤ M
theorem F4.kp {N M : Nat} {t : TypeId} {cs : Array Value} {kk d : Nat} {vN vK : Value} {w wr w' : World} (h : F4 N M t cs kk d vN vK w wr) (hk : ∀ k, k ≤ M → k < wr.heap.size → w'.heap[k]? = wr.heap[k]?) (hb : Below N w w') : F4 N M t cs kk d vN vK w w' :=
  ⟨h.rb.kp (hk _ (by have := h.lt; omega) h.rb.lt), h.ro.kp (hk _ (by have := h.lt; omega) h.ro.lt), h.rm.kp (hk _ (Nat.le_refl _) h.rm.lt), hb, h.lt⟩
theorem F4.old {N M : Nat} {t : TypeId} {cs : Array Value} {kk d : Nat} {vN vK : Value} {w wr w' : World} (h : F4 N M t cs kk d vN vK w wr) (hb : Below wr.heap.size wr w') : F4 N M t cs kk d vN vK w w' :=
  h.kp (fun k _ hl => hb.block k hl) (h.bl.trans (hb.mono (Nat.le_of_lt h.rb.lt)))
theorem F4.set2 {N M : Nat} {t : TypeId} {cs : Array Value} {kk d : Nat} {vN vK : Value} {w wr : World} (h : F4 N M t cs kk d vN vK w wr) (v : Value) : F4 N M t cs kk d v vK w (wr.setCell ⟨M, 2, none⟩ v) :=
  ⟨h.rb.kp (Below.heap_setCell _ _ _ _ (by show N ≠ M; have := h.lt; omega)), h.ro.kp (Below.heap_setCell _ _ _ _ (by show N + 1 ≠ M; have := h.lt; omega)), h.rm.set 2 v, h.bl.setCell (p := ⟨M, 2, none⟩) (by show N ≤ M; have := h.lt; omega) v, h.lt⟩
theorem F4.set3 {N M : Nat} {t : TypeId} {cs : Array Value} {kk d : Nat} {vN vK : Value} {w wr : World} (h : F4 N M t cs kk d vN vK w wr) (v : Value) : F4 N M t cs kk d vN v w (wr.setCell ⟨M, 3, none⟩ v) :=
  ⟨h.rb.kp (Below.heap_setCell _ _ _ _ (by show N ≠ M; have := h.lt; omega)), h.ro.kp (Below.heap_setCell _ _ _ _ (by show N + 1 ≠ M; have := h.lt; omega)), h.rm.set 3 v, h.bl.setCell (p := ⟨M, 3, none⟩) (by show N ≤ M; have := h.lt; omega) v, h.lt⟩
theorem F4.fin {N M : Nat} {t : TypeId} {cs : Array Value} {kk d : Nat} {vN vK : Value} {w wr : World} (h : F4 N M t cs kk d vN vK w wr) (a b c e : Value) :
    Rw (N + 1) #[a, b, c, e] 45 ((((wr.setCell ⟨N + 1, 0, none⟩ a).setCell ⟨N + 1, 1, none⟩ b).setCell ⟨N + 1, 2, none⟩ c).setCell ⟨N + 1, 3, none⟩ e) ∧ Below N w ((((wr.setCell ⟨N + 1, 0, none⟩ a).setCell ⟨N + 1, 1, none⟩ b).setCell ⟨N + 1, 2, none⟩ c).setCell ⟨N + 1, 3, none⟩ e) :=
  ⟨(((h.ro.set 0 a).set 1 b).set 2 c).set 3 e, (((h.bl.setCell (p := ⟨N + 1, 0, none⟩) (by simp) _).setCell (p := ⟨N + 1, 1, none⟩) (by simp) _).setCell (p := ⟨N + 1, 2, none⟩) (by simp) _).setCell (p := ⟨N + 1, 3, none⟩) (by simp) _⟩
theorem F4.new {N : Nat} {t : TypeId} {cs : Array Value} {kk d : Nat} {w W0 w1 : World} (r0 : Rw N cs t W0) (r1 : Rw (N + 1) #[.int .i64 0, .int .i64 0, .slice none 0 0, .slice none 0 0] 45 W0) (hb0 : Below N w W0) (hs0 : W0.heap.size = N + 2) (hb1 : Below W0.heap.size W0 w1) :
    F4 N w1.heap.size t cs kk d (.slice none 0 0) (.slice none 0 0) w (w1.alloc (.cells #[.int .i64 kk, .int .i64 d, .slice none 0 0, .slice none 0 0] 45)) := by
  have hs1 := hb1.size
  exact ⟨(r0.old hb1 r0.lt).alloc _, (r1.old hb1 r1.lt).alloc _, Rw.new _ _ _, (hb0.trans (hb1.mono (by omega))).alloc (by omega) _, by omega⟩
/-- The cells that a walk wants. -/
theorem F4.outc {N M : Nat} {t : TypeId} {cs : Array Value} {kk d : Nat} {vN vK : Value} {w wr : World} (h : F4 N M t cs kk d vN vK w wr) :
    wr.cell? ⟨M, 0, none⟩ = some (.int .i64 kk) ∧ wr.cell? ⟨M, 1, none⟩ = some (.int .i64 d) ∧ wr.cell? ⟨M, 2, none⟩ = some vN ∧ wr.cell? ⟨M, 3, none⟩ = some vK ∧ wr.cell? ⟨N + 1, 0, none⟩ = some (.int .i64 0) ∧ wr.cell? ⟨N + 1, 1, none⟩ = some (.int .i64 0) ∧ wr.cell? ⟨N + 1, 2, none⟩ = some (.slice none 0 0) ∧ wr.cell? ⟨N + 1, 3, none⟩ = some (.slice none 0 0) :=
  ⟨h.rm.cell 0 rfl, h.rm.cell 1 rfl, h.rm.cell 2 rfl, h.rm.cell 3 rfl, h.ro.cell 0 rfl, h.ro.cell 1 rfl, h.ro.cell 2 rfl, h.ro.cell 3 rfl⟩
/-- Numbers that are appended to a plain line. -/
structure SqS (N M : Nat) (cs : Array Value) (d n : Nat) (zs : List Nat) (v : Value) (w wx : World) : Prop where
  ln : zs.length = n
  f4 : F4 N M 124 cs 2 d v (.slice none 0 0) w wx
  ow : wx.ownsRow 0 25 1 v n (fcells zs)
  vb : ∀ k, v.ownBlock = some k → M + 1 ≤ k
theorem SqS.old {N M : Nat} {cs : Array Value} {d n : Nat} {zs : List Nat} {v : Value} {w wx w' : World} (h : SqS N M cs d n zs v w wx) (hb : Below wx.heap.size wx w') : SqS N M cs d n zs v w w' :=
  ⟨h.ln, h.f4.old hb, ownsRow_keep h.ow fun k _ hl => hb.block k hl, h.vb⟩
/-- .. and a place's cells in block P. -/
def SqP (N M : Nat) (cs : Array Value) (d n : Nat) (zs : List Nat) (P : Nat) (ps : Array Value) (v : Value) (w wx : World) : Prop :=
  SqS N M cs d n zs v w wx ∧ Rw P ps 178 wx ∧ (∀ k, v.ownBlock = some k → k ≠ P) ∧ M + 1 ≤ P
theorem SqP.app {N M P d n m g3 cap : Nat} {cs ps : Array Value} {zs ys : List Nat} {v : Value} {w wx w6 : World} {o : Obj} (h : SqP N M cs d n zs P ps v w wx) (hy : ys.length = m)
    (hown : w6.ownsRow 0 25 1 (.slice (some ⟨g3, 0, none⟩) (n + m) cap) (n + m) (fcells zs ++ fcells ys)) (hg : (wx.alloc o).grownBy w6 v.ownBlock) (hat : v.ownBlock = some g3 ∨ g3 = wx.heap.size + 1) :
    SqP N M cs d (n + m) (zs ++ ys) P ps (.slice (some ⟨g3, 0, none⟩) (n + m) cap) w (w6.setCell ⟨M, 2, none⟩ (.slice (some ⟨g3, 0, none⟩) (n + m) cap)) := by
  obtain ⟨h1, h2, h3, h4⟩ := h
  have hPl := h2.lt
  have hMl := h1.f4.rm.lt
  have hNl := h1.f4.rb.lt
  have hk : ∀ k, k < wx.heap.size → v.ownBlock ≠ some k → w6.heap[k]? = wx.heap[k]? := fun k hk hne => (hg.block k (by simp; omega) (fun e => hne e.symm)).trans (Below.heap_alloc _ _ _ hk)
  have hbl : Below N w w6 := (h1.f4.bl.alloc (Nat.le_of_lt hNl) o).grown hg (by simp; omega) (fun k hk => by have := h1.vb k hk; have := h1.f4.lt; omega)
  have hg3 : M + 1 ≤ g3 ∧ g3 ≠ P := by
    rcases hat with h | h
    · exact ⟨h1.vb _ h, h3 _ h⟩
    · exact ⟨by omega, by omega⟩
  have hf6 := h1.f4.kp (w' := w6) (fun k hkM hkl => hk k hkl (fun e => by have := h1.vb k e; omega)) hbl
  refine ⟨⟨by rw [List.length_append, h1.ln, hy], hf6.set2 _, ?_, fun k hk' => ?_⟩, ?_, fun k hk' => ?_, h4⟩
  · rw [fcells_app3]
    refine ownsRow_keep hown fun k hk' _ => Below.heap_setCell _ _ _ _ ?_
    have : g3 = k := by simpa [Value.ownBlock] using hk'
    show k ≠ M
    omega
  · have : g3 = k := by simpa [Value.ownBlock] using hk'
    omega
  · exact (h2.kp (hk P hPl (fun e => h3 P e rfl))).kp (Below.heap_setCell _ _ _ _ (by show P ≠ M; omega))
  · have : g3 = k := by simpa [Value.ownBlock] using hk'
    omega
set_option maxRecDepth 100000 in
set_option maxHeartbeats 4000000 in
theorem plainSeq_any (d : Nat) (F : Nat → Prop) (cs : List Value) (xs : List Nat) (w : World) (hd : d < 4) (h : LSc d F w cs xs) : Calls Tryz.prog 83 #[.agg ⟨cs⟩] w (FrPost (GLc d) xs w) := by
  obtain ⟨i0, hi, hz0, hz1, hz2⟩ := info_parts info25
  obtain ⟨vN, rfl, hown, -, hok⟩ := h
  have HOK := Lib.hid hok
  obtain ⟨p, hp2, hx⟩ := hok
  obtain ⟨a, c, rfl, hrow⟩ := row_slice hown
  have hw2 : 2 ≤ wid d ∧ wid d ≤ 4 := by unfold wid; omega
  have hxl : xs.length ≤ 400000 := by rw [hx]; exact Nat.le_trans (Nat.mul_le_mul hp2 hw2.2) (by decide)
  have hsl := fun W => seqLen_any d p c a W hd (by omega)
  have hget : ∀ i, i < xs.length → 0 < xs.length → ∃ g, a = some ⟨g, 0, none⟩ ∧ g < w.heap.size ∧ w.cell? ⟨g, i, none⟩ = some (.float .f64 (xs.getD i 0)) := fun i hi h0 => by
    obtain ⟨g, h1, h2, -, h3⟩ := hrow h0
    refine ⟨g, h1, h2, ?_⟩
    rw [h3 i (by unfold fcells; rw [List.length_map]; exact hi)]
    unfold fcells
    rw [List.getElem?_map, List.getD_eq_getElem?_getD, List.getElem?_eq_getElem hi]
    rfl
  obtain ⟨n, hn⟩ : ∃ n, n = xs.length := ⟨_, rfl⟩
  rw [← hx, ← hn] at hsl
  rw [← hn] at hrow hget ⊢
  have HP := Lib.hid (And.intro hx (And.intro hw2 (And.intro hxl (And.intro hget hn))))
  have HL := Lib.hid hsl
  have H3 := Lib.hid (fun W => is3_any d W hd)
  have HM := Lib.hid (fun W => isM_any d W hd)
  clear hx hw2 hxl hget hn hsl hown hrow
  have hcv : IntKind.i64.wrap (d : Int) = d := by rw [IntKind.wrap_i64]; omega
  go_enter Tryz.func83, Tryz.ntmps83
  obtain ⟨W0, hW0⟩ : ∃ W0, W0 = (w.alloc (.cells ⟨[.int .u8 d, .slice a n c]⟩ 124)).alloc (.cells #[.int .i64 0, .int .i64 0, .slice none 0 0, .slice none 0 0] 45) := ⟨_, rfl⟩
  have r0 : Rw w.heap.size #[.int .u8 d, .slice a n c] 124 W0 := by rw [hW0]; exact (Rw.new _ _ _).alloc _
  have r1 : Rw (w.heap.size + 1) #[.int .i64 0, .int .i64 0, .slice none 0 0, .slice none 0 0] 45 W0 := by rw [hW0]; exact heap_new2 _ _ _
  have hb0 : Below w.heap.size w W0 := by rw [hW0]; exact below2 _ _ _
  have hs0 : W0.heap.size = w.heap.size + 2 := by rw [hW0]; simp
  have HR := Lib.hid (And.intro r0 (And.intro r1 (And.intro hb0 hs0)))
  have q0 : W0.cell? ⟨w.heap.size, 0, none⟩ = some (.int .u8 d) := r0.cell 0 rfl
  have q1 : W0.cell? ⟨w.heap.size, 1, none⟩ = some (.slice a n c) := r0.cell 1 rfl
  clear r0 r1 hb0 hs0
  go_upto_region 1 with fail
  rw [← hW0]
  clear hW0
  go_upto_region 2 with (go_at_call 108; refine (sctype_any d n c a _).mono ?_; rintro e w1 ⟨rfl, hb1⟩; replace hb1 := Lib.hid hb1)
  have hf4 : F4 w.heap.size w1.heap.size 124 #[.int .u8 d, .slice a n c] 2 d (.slice none 0 0) (.slice none 0 0) w (w1.alloc (.cells #[.int .i64 2, .int .i64 d, .slice none 0 0, .slice none 0 0] 45)) := F4.new HR.out.1 HR.out.2.1 HR.out.2.2.1 HR.out.2.2.2 hb1.out
  obtain ⟨W2, hW2⟩ : ∃ W2, W2 = w1.alloc (.cells #[.int .i64 2, .int .i64 d, .slice none 0 0, .slice none 0 0] 45) := ⟨_, rfl⟩
  rw [← hW2] at hf4 ⊢
  obtain ⟨M, hM⟩ : ∃ M, M = w1.heap.size := ⟨_, rfl⟩
  rw [← hM] at hf4 ⊢
  have HF := Lib.hid hf4
  clear hf4 hW2 hM hb1 HR q0 q1
  go_wp2_with fail
  go_loopw [4] (fun i wr => ∃ j : Nat, j ≤ p ∧ i = .int .i64 j ∧ RowKit.Hid (∃ v, SqS w.heap.size M #[.int .u8 d, .slice a n c] d (j * wid d) (xs.take (j * wid d)) v w wr)) (fun i _ => p - (intOf i).toNat)
  case atStart => exact ⟨0, Nat.zero_le _, rfl, Lib.hid ⟨_, by simp, HF.out, by simp [fcells]; exact World.ownsRow_nil _ _ _ _, (fun k hk => by cases hk)⟩⟩
  case round =>
    obtain ⟨j, hj, rfl, hS⟩ := hrel
    obtain ⟨v0, hs⟩ := hS.out
    have b0 := hs.f4.rb.cell 0 (v := Value.int .u8 d) rfl
    have b1 := hs.f4.rb.cell 1 (v := Value.slice a n c) rfl
    have HS := Lib.hid hs; clear hs hS
    by_cases hlt : j < p
    · have hI : j * wid d + wid d ≤ xs.length := by rw [HP.out.1, ← Nat.succ_mul]; exact Nat.mul_le_mul_right _ hlt
      have htl : (xs.take (j * wid d)).length = j * wid d := by rw [List.length_take]; omega
      have htq := take_quad d hd xs (j * wid d) hI
      have hsucc : (j + 1) * wid d = j * wid d + wid d := Nat.succ_mul _ _
      have hnx : n = xs.length := HP.out.2.2.2.2
      have hpos : 0 < n := by have := HP.out.2.1.1; omega
      obtain ⟨g, rfl, hg, -⟩ := HP.out.2.2.2.1 0 hpos hpos
      have hcell : ∀ i, i < n → w.cell? ⟨g, i, none⟩ = some (.float .f64 (xs.getD i 0)) := fun i hi => by
        obtain ⟨g', h1, -, h3⟩ := HP.out.2.2.2.1 i hi hpos
        cases h1
        exact h3
      obtain ⟨x0, hx0⟩ : ∃ x, x = xs.getD (j * wid d) 0 := ⟨_, rfl⟩
      obtain ⟨x1, hx1⟩ : ∃ x, x = xs.getD (j * wid d + 1) 0 := ⟨_, rfl⟩
      obtain ⟨x2, hx2⟩ : ∃ x, x = if d % 2 = 1 then xs.getD (j * wid d + 2) 0 else 0 := ⟨_, rfl⟩
      obtain ⟨x3, hx3⟩ : ∃ x, x = if d / 2 = 1 then xs.getD (j * wid d + wid d - 1) 0 else 0 := ⟨_, rfl⟩
      have hgt : ∀ W, Below w.heap.size w W → Calls Tryz.prog 110 #[.agg #[.int .u8 d, .slice (some ⟨g, 0, none⟩) n c], .int .i64 j] W fun e w' => e = .returned (.agg #[.float .f64 x0, .float .f64 x1, .float .f64 x2, .float .f64 x3, .int .u8 d]) ∧ Below W.heap.size W w' := by
        intro W hW
        have hw2 := HP.out.2.1
        refine seqGet_any d g n c j x0 x1 x2 x3 W hd (by omega) (by have := HP.out.2.2.1; omega) (Nat.lt_of_lt_of_le hg hW.size) ?_ ?_ (fun h => ?_) (fun h => ?_) (fun h => ?_) (fun h => ?_)
        · rw [hW.cell (p := ⟨g, _, none⟩) hg, hcell _ (by omega), hx0]
        · rw [hW.cell (p := ⟨g, _, none⟩) hg, hcell _ (by omega), hx1]
        · have hwv : 3 ≤ wid d := by unfold wid; omega
          rw [hW.cell (p := ⟨g, _, none⟩) hg, hcell _ (by omega), hx2, if_pos h]
        · rw [hW.cell (p := ⟨g, _, none⟩) hg, hcell _ (by omega), hx3, if_pos h]
        · rw [hx2, if_neg (by omega)]
        · rw [hx3, if_neg (by omega)]
      obtain ⟨I, hI'⟩ : ∃ I, I = j * wid d := ⟨_, rfl⟩
      rw [← hI'] at HS hx0 hx1 hx2 hx3 htl htq hsucc hI
      have hIw : I ≤ 400000 := by have := HP.out.2.2.1; omega
      have HE := Lib.hid (And.intro htl (And.intro htq (And.intro hsucc (And.intro hx0 (And.intro hx1 (And.intro hx2 (And.intro hx3 (And.intro hI hgt))))))))
      clear htl htq hsucc hx0 hx1 hx2 hx3 hI hI' hgt hcell hnx hpos
      have hlt' : (j : Int) < (p : Int) := by omega
      have hfin : ∀ P n3 ps v wx, SqP w.heap.size M #[.int .u8 d, .slice (some ⟨g, 0, none⟩) n c] d n3 (xs.take I ++ [x0, x1] ++ zp d xs I ++ mp d xs I) P ps v w wx → SqS w.heap.size M #[.int .u8 d, .slice (some ⟨g, 0, none⟩) n c] d (I + wid d) (xs.take (I + wid d)) v w wx := by
        intro P n3 ps v wx h
        have e : xs.take I ++ [x0, x1] ++ zp d xs I ++ mp d xs I = xs.take (I + wid d) := by rw [HE.out.2.1, HE.out.2.2.2.1, HE.out.2.2.2.2.1]
        rw [e] at h
        have h' := h.1
        have hl : n3 = I + wid d := by rw [← h'.ln, List.length_take]; have := HE.out.2.2.2.2.2.2.2.1; omega
        subst hl
        exact h'
      go_upto_block 1 with (go_at_call 109; refine (HL.out _).mono ?_; rintro e w5 ⟨rfl, hb5⟩)
      have hs5 := HS.out.old hb5
      have a0 := hs5.f4.rb.cell 0 (v := Value.int .u8 d) rfl
      have a1 := hs5.f4.rb.cell 1 (v := Value.slice (some ⟨g, 0, none⟩) n c) rfl
      have H5 := Lib.hid hs5
      clear hs5 hb5 HS b0 b1
      go_cut [] (fun wx => RowKit.Hid (∃ v, SqS w.heap.size M #[.int .u8 d, .slice (some ⟨g, 0, none⟩) n c] d (I + wid d) (xs.take (I + wid d)) v w wx))
      case first =>
        go_upto_region 6 with (go_at_call 110; refine (HE.out.2.2.2.2.2.2.2.2 _ H5.out.f4.bl).mono ?_; rintro e w6 ⟨rfl, hb6⟩)
        obtain ⟨P, hP⟩ : ∃ P, P = w6.heap.size := ⟨_, rfl⟩
        obtain ⟨W7, hW7⟩ : ∃ W7, W7 = w6.alloc (.cells #[.float .f64 x0, .float .f64 x1, .float .f64 x2, .float .f64 x3, .int .u8 d] 178) := ⟨_, rfl⟩
        have hs6 := H5.out.old hb6
        have hal7 : Below w6.heap.size w6 W7 := by rw [hW7]; exact (Below.refl _ _).alloc (Nat.le_refl _) _
        have hsp : SqP w.heap.size M #[.int .u8 d, .slice (some ⟨g, 0, none⟩) n c] d I (xs.take I) P #[.float .f64 x0, .float .f64 x1, .float .f64 x2, .float .f64 x3, .int .u8 d] v0 w W7 := by
          refine ⟨hs6.old hal7, by rw [hW7, hP]; exact Rw.new _ _ _, fun k hk => ?_, by rw [hP]; exact hs6.f4.rm.lt⟩
          have := (hs6.ow.lt k hk).2
          omega
        rw [← hW7, ← hP]
        have m2 := hsp.1.f4.rm.cell 2 (v := v0) rfl
        have z2 := hsp.1.f4.rm.froz 2
        have p0 := hsp.2.1.cell 0 (v := Value.float .f64 x0) rfl
        have p1 := hsp.2.1.cell 1 (v := Value.float .f64 x1) rfl
        have H7 := Lib.hid hsp
        clear hsp hs6 hal7 hW7 hP hb6 H5 a0 a1
        have hml := H7.out.1.f4.rm.lt
        go_upto_region 7 with (at_builtin; refine wpList_append_lies _ rfl _ _ 42 rfl 0 25 i0 (.float .f64 0) 1 8 Tryz.underlying42 hi hz0 hz1 hz2 rfl (by decide) v0 I (fcells (xs.take I)) rfl (H7.out.1.ow.alloc _) ⟨W7.heap.size, 0, none⟩ 2 2 [_, _] rfl rfl (cells_lit2' _ _ _ _ _ rfl) (by intro u hu; simp at hu; rcases hu with rfl | rfl <;> rfl) (by omega) (by unfold maxLen; omega) (by omega) (Nat.zero_le _) (W7.heap.size + 1) (by simp) ?_; intro g3 cap w8 hown8 hg8 hat8 hlt8; obtain ⟨m28, z28⟩ := cf_of ((hg8.block M (by simp; omega) (fun e => by have := H7.out.1.vb _ e.symm; omega)).trans (Below.heap_alloc _ _ _ hml)) ⟨m2, z2⟩)
        have hn1 := H7.out.app (ys := [x0, x1]) rfl hown8 hg8 hat8
        obtain ⟨W8, hW8⟩ : ∃ W8, W8 = w8.setCell ⟨M, 2, none⟩ (.slice (some ⟨g3, 0, none⟩) (I + 2) cap) := ⟨_, rfl⟩
        rw [← hW8]
        have hn1' : SqP w.heap.size M #[.int .u8 d, .slice (some ⟨g, 0, none⟩) n c] d (I + 2) (xs.take I ++ [x0, x1]) P #[.float .f64 x0, .float .f64 x1, .float .f64 x2, .float .f64 x3, .int .u8 d] (.slice (some ⟨g3, 0, none⟩) (I + 2) cap) w W8 := by rw [hW8]; exact hn1
        clear hn1 hown8 hg8 hat8 hlt8 m28 z28 m2 z2 p0 p1 hml hW8 H7
        have p4 := hn1'.2.1.cell 4 (v := Value.int .u8 d) rfl
        have H8 := Lib.hid hn1'
        clear hn1'
        go_upto_if 32 with (go_at_call 111; refine (H3.out _).mono ?_; rintro e w' ⟨rfl, rfl⟩)
        go_cut [] (fun wx => ∃ n2 a2 m2 c2, n2 ≤ I + 3 ∧ RowKit.Hid (SqP w.heap.size M #[.int .u8 d, .slice (some ⟨g, 0, none⟩) n c] d n2 (xs.take I ++ [x0, x1] ++ zp d xs I) P #[.float .f64 x0, .float .f64 x1, .float .f64 x2, .float .f64 x3, .int .u8 d] (.slice a2 m2 c2) w wx))
        case first =>
          have hz : d % 2 = 0 ∨ d % 2 = 1 := by omega
          rcases hz with hz | hz
          · have hbz : (d % 2 == 1) = false := by rw [hz]; rfl
            have HZ := Lib.hid hz; clear hz
            go_wp2_with fail
            go_meet
            case rel => exact ⟨I + 2, _, _, _, by omega, Lib.hid (by have h := H8.out; have e : zp d xs I = [] := by { unfold zp; rw [if_neg (by have := HZ.out; omega)] }; rw [e, List.append_nil]; exact h)⟩
          · have hbz : (d % 2 == 1) = true := by rw [hz]; rfl
            have HZ := Lib.hid hz; clear hz
            have m2 := H8.out.1.f4.rm.cell 2 (v := Value.slice (some ⟨g3, 0, none⟩) (I + 2) cap) rfl
            have z2 := H8.out.1.f4.rm.froz 2
            have p2 := H8.out.2.1.cell 2 (v := Value.float .f64 x2) rfl
            have hml := H8.out.1.f4.rm.lt
            go_wp2_with (at_builtin; refine wpList_append_lies _ rfl _ _ 42 rfl 0 25 i0 (.float .f64 0) 1 8 Tryz.underlying42 hi hz0 hz1 hz2 rfl (by decide) (.slice (some ⟨g3, 0, none⟩) (I + 2) cap) (I + 2) (fcells (xs.take I ++ [x0, x1])) rfl (H8.out.1.ow.alloc _) ⟨W8.heap.size, 0, none⟩ 1 1 [_] rfl rfl (cells_lit1 _ _ _ _ rfl) (by intro u hu; simp at hu; subst hu; rfl) (by omega) (by unfold maxLen; omega) (by omega) (Nat.zero_le _) (W8.heap.size + 1) (by simp) ?_; intro g4 cap4 w9 hown9 hg9 hat9 hlt9; obtain ⟨m29, z29⟩ := cf_of ((hg9.block M (by simp; omega) (fun e => by have := H8.out.1.vb _ e.symm; omega)).trans (Below.heap_alloc _ _ _ hml)) ⟨m2, z2⟩)
            go_meet
            case rel => exact ⟨I + 3, _, _, _, by omega, Lib.hid (by have h := H8.out.app (m := 1) (ys := [x2]) rfl hown9 hg9 hat9; have e : zp d xs I = [x2] := by { have := HZ.out; unfold zp; rw [if_pos (by omega), HE.out.2.2.2.2.2.1, if_pos (by omega)] }; rw [e]; exact h)⟩
        case rest =>
          obtain ⟨n2, a2, m2', c2, hn2, H9⟩ := hcut
          clear H8 p4
          have p4 := H9.out.2.1.cell 4 (v := Value.int .u8 d) rfl
          go_upto_if 42 with (go_at_call 112; refine (HM.out _).mono ?_; rintro e w' ⟨rfl, rfl⟩)
          have hz : d / 2 = 0 ∨ d / 2 = 1 := by omega
          rcases hz with hz | hz
          · have hbz : (d / 2 == 1) = false := by rw [hz]; rfl
            have HZ := Lib.hid hz; clear hz
            go_wp2_with fail
            go_meet
            case rel => exact Lib.hid ⟨_, hfin _ _ _ _ _ (by have h := H9.out; have e : mp d xs I = [] := by { unfold mp; rw [if_neg (by have := HZ.out; omega)] }; rw [e, List.append_nil]; exact h)⟩
          · have hbz : (d / 2 == 1) = true := by rw [hz]; rfl
            have HZ := Lib.hid hz; clear hz
            have m2 := H9.out.1.f4.rm.cell 2 (v := Value.slice a2 m2' c2) rfl
            have z2 := H9.out.1.f4.rm.froz 2
            have p3 := H9.out.2.1.cell 3 (v := Value.float .f64 x3) rfl
            have hml := H9.out.1.f4.rm.lt
            go_wp2_with (at_builtin; refine wpList_append_lies _ rfl _ _ 42 rfl 0 25 i0 (.float .f64 0) 1 8 Tryz.underlying42 hi hz0 hz1 hz2 rfl (by decide) (.slice a2 m2' c2) n2 (fcells (xs.take I ++ [x0, x1] ++ zp d xs I)) rfl (H9.out.1.ow.alloc _) ⟨wc.heap.size, 0, none⟩ 1 1 [_] rfl rfl (cells_lit1 _ _ _ _ rfl) (by intro u hu; simp at hu; subst hu; rfl) (by omega) (by unfold maxLen; omega) (by omega) (Nat.zero_le _) (wc.heap.size + 1) (by simp) ?_; intro g4 cap4 w9 hown9 hg9 hat9 hlt9; obtain ⟨m29, z29⟩ := cf_of ((hg9.block M (by simp; omega) (fun e => by have := H9.out.1.vb _ e.symm; omega)).trans (Below.heap_alloc _ _ _ hml)) ⟨m2, z2⟩)
            go_meet
            case rel => exact Lib.hid ⟨_, hfin _ _ _ _ _ (by have h := H9.out.app (m := 1) (ys := [x3]) rfl hown9 hg9 hat9; have e : mp d xs I = [x3] := by { have := HZ.out; unfold mp; rw [if_pos (by omega), HE.out.2.2.2.2.2.2.1, if_pos (by omega)] }; rw [e]; exact h)⟩
      case rest =>
        go_wp2_with fail
        go_roundw
        case rel => exact ⟨j + 1, by omega, by go_num, Lib.hid (by rw [HE.out.2.2.1]; exact hcut.out)⟩
        case measure => simp [intOf]; omega
    · have hjp : j = p := by omega
      subst hjp
      have hs := HS.out
      have hnx : xs.length = j * wid d := HP.out.1
      rw [← hnx, List.take_length] at hs
      obtain ⟨a9, c9, rfl, -⟩ := row_slice hs.ow
      have HS9 := Lib.hid hs
      have HNX := Lib.hid hnx
      have hnn := HP.out.2.2.2.2
      clear hs hnx
      rw [← hnn] at HS9
      have HNN := Lib.hid hnn; clear hnn
      go_upto_region 11 with (go_at_call 109; refine (HL.out _).mono ?_; rintro e w5 ⟨rfl, hb5⟩)
      have h5 := HS9.out.old hb5
      obtain ⟨c0, c1, c2, c3, o0, o1, o2, o3⟩ := h5.f4.outc
      have z0 := h5.f4.ro.froz 0; have z1 := h5.f4.ro.froz 1; have z2 := h5.f4.ro.froz 2; have z3 := h5.f4.ro.froz 3
      have H5 := Lib.hid h5
      clear h5 hb5
      go_wp2_with fail
      have h5 := H5.out
      have hfin := h5.f4.fin (.int .i64 2) (.int .i64 d) (.slice a9 n c9) (.slice none 0 0)
      refine bodyPost_ret_by (results_cell_row rfl _ _ (w.heap.size + 1) 45 _ (0, 0) _ rfl hfin.1 Tryz.underlying45 rfl (by kernel_rfl)) rfl ⟨_, rfl, ⟨_, rfl, ?_, fun k hk => ?_, HOK.out⟩, hfin.2⟩
      · rw [← HNN.out]
        refine ownsRow_keep h5.ow fun k hk _ => set4_keep _ _ _ _ _ _ _ ?_
        have := h5.vb k hk
        have := h5.f4.lt
        omega
      · have := h5.vb k hk
        have := h5.f4.lt
        omega
end Go.Proofs.YtblpcpkkjbkakaaGreatDoor
/- The parser's reading of a line's body. -/
namespace Go.Proofs.YtblpcpkkjbkakaaGreatDoor
open Go Go.RowKit
set_option linter.unusedVariables false
set_option linter.unusedSimpArgs false

theorem grown_set (w : World) (N i : Nat) (v : Value) : w.grownBy (w.setCell ⟨N, i, none⟩ v) (some N) :=
  ⟨rfl, rfl, rfl, by simp [World.setCell], fun k _ hne => Below.heap_setCell _ _ _ _ (fun e => hne (by rw [e]))⟩
/-- A parser's function under way: its result's two cells in the first new block. -/
structure Q2 (t : TypeId) (z0 z1 : Value) (B b rb : Nat) (w W : World) : Prop where
  rw0 : Rw w.heap.size #[z0, z1] t W
  fb : Fb w.heap.size B b rb w W
  hb : b < w.heap.size
  hr : rb < w.heap.size
  hB : B ≤ w.heap.size
  ht : t ≠ 5
theorem Q2.lt {t : TypeId} {z0 z1 : Value} {B b rb : Nat} {w W : World} (h : Q2 t z0 z1 B b rb w W) : w.heap.size + 1 ≤ W.heap.size := h.rw0.lt
theorem Q2.step {t : TypeId} {z0 z1 : Value} {B b rb : Nat} {w W W' : World} (h : Q2 t z0 z1 B b rb w W) (hf : Fb (w.heap.size + 1) B b rb W W') : Q2 t z0 z1 B b rb w W' :=
  ⟨hf.2 _ _ (Nat.lt_succ_self _) h.rw0 (by have := h.hb; omega) (by have := h.hr; omega) (fun c fz e => by cases e; exact h.ht rfl),
    ⟨h.fb.1.trans hf.1, fun k o hk ho h1 h2 h3 => hf.2 k o (by omega) (h.fb.2 k o hk ho h1 h2 h3) h1 h2 h3⟩, h.hb, h.hr, h.hB, h.ht⟩
theorem Q2.new {t : TypeId} {z0 z1 : Value} {B b rb : Nat} {w : World} (hb : b < w.heap.size) (hr : rb < w.heap.size) (hB : B ≤ w.heap.size) (ht : t ≠ 5) : Q2 t z0 z1 B b rb w (w.alloc (.cells #[z0, z1] t)) :=
  ⟨Rw.new _ _ _, Fb.old (Fb.refl _ _ _ _ _) ((Below.refl _ _).alloc (Nat.le_refl _) _) hB (Nat.le_refl _), hb, hr, hB, ht⟩
theorem Q2.facts {t : TypeId} {z0 z1 : Value} {B b rb : Nat} {w W : World} (h : Q2 t z0 z1 B b rb w W) : W.cell? ⟨w.heap.size, 0, none⟩ = some z0 ∧ W.cell? ⟨w.heap.size, 1, none⟩ = some z1 ∧ W.frozen? ⟨w.heap.size, 0, none⟩ = false ∧ W.frozen? ⟨w.heap.size, 1, none⟩ = false :=
  ⟨h.rw0.cell 0 rfl, h.rw0.cell 1 rfl, h.rw0.froz 0, h.rw0.froz 1⟩
theorem Q2.fin {t : TypeId} {z0 z1 : Value} {B b rb : Nat} {w W : World} (h : Q2 t z0 z1 B b rb w W) (a c : Value) :
    Rw w.heap.size #[a, c] t ((W.setCell ⟨w.heap.size, 0, none⟩ a).setCell ⟨w.heap.size, 1, none⟩ c) ∧ Fr B b rb w ((W.setCell ⟨w.heap.size, 0, none⟩ a).setCell ⟨w.heap.size, 1, none⟩ c) ∧
    (∀ s p T, PT s rb B b p T W → PT s rb B b p T ((W.setCell ⟨w.heap.size, 0, none⟩ a).setCell ⟨w.heap.size, 1, none⟩ c)) ∧ (∀ k, k ≠ w.heap.size → ((W.setCell ⟨w.heap.size, 0, none⟩ a).setCell ⟨w.heap.size, 1, none⟩ c).heap[k]? = W.heap[k]?) := by
  have hk : ∀ k, k ≠ w.heap.size → ((W.setCell ⟨w.heap.size, 0, none⟩ a).setCell ⟨w.heap.size, 1, none⟩ c).heap[k]? = W.heap[k]? := fun k hk => by
    rw [Below.heap_setCell _ _ _ _ hk, Below.heap_setCell _ _ _ _ hk]
  have hR := (h.rw0.set 0 a).set 1 c
  have hb := h.hb; have hr := h.hr
  refine ⟨hR, ⟨(h.fb.1.setCell (p := ⟨w.heap.size, 0, none⟩) h.hB _).setCell (p := ⟨w.heap.size, 1, none⟩) h.hB _, fun k o ho h1 h2 h3 => ?_⟩, fun s p T hp => ?_, hk⟩
  · have hl := (Array.getElem?_eq_some_iff.1 ho).1
    rw [hk k (by omega)]
    exact h.fb.2 k o hl ho h1 h2 h3
  · have h1 := hp.grown (grown_set W w.heap.size 0 a) (fun k e => by cases e; exact ⟨⟨by omega, by omega⟩, _, _, _, h.rw0, h.ht⟩)
    exact h1.grown (grown_set _ w.heap.size 1 c) (fun k e => by cases e; exact ⟨⟨by omega, by omega⟩, _, _, _, h.rw0.set 0 a, h.ht⟩)
theorem lineP_of {d : Nat} {T T' : List Tok} {l : List (List Nat)} (h : bodyP (plS (wid d)) T = some (l, T')) : lineP d T = some (l.flatten, T') := by unfold lineP; rw [h]; rfl
theorem lineP_none {d : Nat} {T : List Tok} (h : bodyP (plS (wid d)) T = none) : lineP d T = none := by unfold lineP; rw [h]; rfl
/-- A line's numbers are read. -/
def LnDone (s : ByteArray) (rb B b d : Nat) (T : List Tok) (w : World) (v : Value) (wx : World) : Prop :=
  ∃ xs T' pj, lineP d T = some (xs, T') ∧ wx.ownsRow (w.heap.size + 1) 25 1 v xs.length (fcells xs) ∧ PT s rb B b pj T' wx ∧ Q2 126 (.int .u8 0) (.slice none 0 0) B b rb w wx ∧ LnOk d xs
/-- The loop over a line's places. -/
def LnLp (s : ByteArray) (rb B b d : Nat) (T : List Tok) (w : World) (k : Nat) (v : Value) (wx : World) : Prop :=
  ∃ l Tj pj, Tj.length = k ∧ CtRel (plS (wid d)) (bodyP (plS (wid d)) T) l Tj ∧ wx.ownsRow (w.heap.size + 1) 25 1 v l.flatten.length (fcells l.flatten) ∧ PT s rb B b pj Tj wx ∧ Q2 126 (.int .u8 0) (.slice none 0 0) B b rb w wx ∧ l.flatten.length = l.length * wid d ∧ l.length + k ≤ T.length
theorem LnDone.q3 {s : ByteArray} {rb B b d : Nat} {T : List Tok} {w wx w3 : World} {v : Value} (h : LnDone s rb B b d T w v wx) (hb : Below wx.heap.size wx w3) : Q2 126 (.int .u8 0) (.slice none 0 0) B b rb w w3 := by
  obtain ⟨xs, T', pj, -, -, -, h4, -⟩ := h
  exact h4.step (Fb.old (Fb.refl _ _ _ _ _) hb (by have := h4.hB; omega) h4.lt)
theorem ln_fin {s : ByteArray} {rb B b d : Nat} {T : List Tok} {w wx w3 : World} {v : Value} (h : LnDone s rb B b d T w v wx) (hb : Below wx.heap.size wx w3) :
    Rw w.heap.size #[.int .u8 d, v] 126 ((w3.setCell ⟨w.heap.size, 0, none⟩ (.int .u8 d)).setCell ⟨w.heap.size, 1, none⟩ v) ∧
    BpPost (LSc d) [.int .u8 0, .slice none 0 0] (lineP d T) s rb B b w (.returned (.tuple #[.agg #[.int .u8 d, v], .nilIface])) ((w3.setCell ⟨w.heap.size, 0, none⟩ (.int .u8 d)).setCell ⟨w.heap.size, 1, none⟩ v) := by
  have hq := h.q3 hb
  obtain ⟨xs, T', pj, h1, h2, h3, h4, h5⟩ := h
  obtain ⟨q1, q2, q3, q4⟩ := hq.fin (.int .u8 d) v
  refine ⟨q1, _, _, rfl, .inl ⟨xs, T', h1, rfl, ⟨v, rfl, ?_, fun k hk => ?_, h5⟩, pj, q3 _ _ _ (h3.old hb)⟩, q2⟩
  · refine ownsRow_keep (ownsRow_keep (ownsRow_zero h2) fun k hk hl => hb.block k hl) fun k hk _ => q4 k ?_
    have := (h2.lt k hk).1
    omega
  · have := (h2.lt k hk).1
    omega
set_option maxRecDepth 100000 in
set_option maxHeartbeats 4000000 in
theorem line_pt (s : ByteArray) (rb B b p d : Nat) (g gl gp : Nat × Nat) (T : List Tok) (w : World) (hs : s.size ≤ 2000) (hd : d < 4) (h : PT s rb B b p T w) (hG : GlN B g gl gp w) (hT : T.length ≤ 99999) :
    Calls Tryz.prog 105 #[.pointer (some ⟨b, 0, none⟩), .int .u8 d] w (BpPost (LSc d) [.int .u8 0, .slice none 0 0] (lineP d T) s rb B b w) := by
  obtain ⟨hlb1, hlb2, hlb3, hlb4, hlb5⟩ := h.lt
  have hq0 : Q2 126 (.int .u8 0) (.slice none 0 0) B b rb w (w.alloc (.cells #[.int .u8 0, .slice none 0 0] 126)) := Q2.new hlb2 hlb3 (by omega) (by decide)
  have hal : Below w.heap.size w (w.alloc (.cells #[.int .u8 0, .slice none 0 0] 126)) := (Below.refl _ _).alloc (Nat.le_refl _) _
  have hem := empty_pt s rb B b p g gl gp T _ (h.old hal) (hG.keepO hal)
  have HH := Lib.hid (And.intro hq0 (And.intro hem (And.intro hG h.ok)))
  clear h hG hq0 hal hem hlb1 hlb2 hlb3 hlb4 hlb5
  go_enter Tryz.func105, Tryz.ntmps105
  go_upto_region 3 with (go_at_call 56; refine HH.out.2.1.mono ?_; rintro e w1 ⟨x, v, rfl, hk, hfr⟩)
  have hq1 := HH.out.1.step (Fb.ofFr hfr)
  clear hfr
  rcases hk with ⟨rfl, t, T1, hTt, rfl, htx, p1, hpt⟩ | ⟨⟨u, y, rfl⟩, hno⟩
  · have hG1 := HH.out.2.2.1.keep hq1.fb.1
    have htok := HH.out.2.2.2 t (by rw [hTt]; exact List.mem_cons_self ..)
    have H1 := Lib.hid (And.intro hq1 (And.intro hpt (And.intro hG1 (And.intro hTt htok))))
    have HTX := Lib.hid htx
    clear hq1 hpt hG1 hTt htok htx
    rcases HTX.out with he | h40
    · have hb : (t.2 == [40]) = false := by rw [he]; rfl
      have HE := Lib.hid he; clear he
      have h139 := fun W => newSeq_any d 0 0 0 none W hd (by simp) (by omega)
      have h140 := fun W => newLine_any d 0 0 none W
      have HN := Lib.hid (And.intro h139 h140); clear h139 h140
      have hdn : LnDone s rb B b d T w (.slice none 0 0) w1 := ⟨[], T1, p1, by rw [H1.out.2.2.2.1]; exact lineP_of (bodyP_empty (tok_emptyW H1.out.2.2.2.2 HE.out) HE.out), World.ownsRow_nil _ _ _ _, H1.out.2.1, H1.out.1, LnOk.nil d⟩
      have HDN := Lib.hid hdn; clear hdn
      go_wp2_with (first | (go_at_call 139; refine (HN.out.1 _).mono ?_; rintro e w2 ⟨rfl, hb2⟩; replace hb2 := Lib.hid hb2) | (go_at_call 140; refine (HN.out.2 _).mono ?_; rintro e w3 ⟨rfl, hb3⟩; have hb4 : Below w1.heap.size w1 w3 := (hb2.out.alloc hb2.out.size _).trans (hb3.mono (by have := hb2.out.size; simp; omega)); obtain ⟨k0, k1, f0, f1⟩ := (HDN.out.q3 hb4).facts; replace hb4 := Lib.hid hb4; clear hb3))
      obtain ⟨q1, q2⟩ := ln_fin HDN.out hb4.out
      refine bodyPost_ret_by (results_row_tmp (u := 5) rfl _ _ w.heap.size 126 _ (0, 0) _ rfl q1 Tryz.underlying126 rfl (by kernel_rfl)) rfl ?_
      exact q2
    · have hb : (t.2 == [40]) = true := by rw [h40]; rfl
      have h4 : t.1 = 40 := tok_text H1.out.2.2.2.2 (.inl rfl) h40
      have hap := append_pt s (w.heap.size + 1) rb B b p1 d 0 g gl gp [] (.slice none 0 0) T1 w1 hs hd H1.out.2.1 H1.out.2.2.1 (World.ownsRow_nil _ _ _ _) (by omega) (by have := H1.out.1.hb; omega) (by have := H1.out.1.hr; omega) (by have := H1.out.1.hB; omega) H1.out.1.lt
      have HE := Lib.hid (And.intro h4 hap); clear h40 h4 hap
      go_upto_region 7 with (go_at_call 138; refine HE.out.2.mono ?_; rintro e w2 ⟨v2, err, rfl, hk, hfb⟩)
      have hq2 := H1.out.1.step hfb
      clear hfb
      rcases hk with ⟨ys, T2, hpl, rfl, hown, p2, hpt2⟩ | ⟨hpl, ⟨u, y, rfl⟩, -⟩
      · have hpk := plS_ok _ _ _ _ hpl
        have hlp : LnLp s rb B b d T w T2.length v2 w2 := by
          refine ⟨[ys], T2, p2, rfl, ?_, ?_, hpt2, hq2, by simp [hpk.1], ?_⟩
          · rw [H1.out.2.2.2.1]; exact CtRel.start (plW_nil d) HE.out.1 hpl hpk.2.length_le
          · have hl : [ys].flatten = ys := by simp
            rw [hl, hpk.1]
            simpa using hown
          · have := hpk.2.length_le
            rw [H1.out.2.2.2.1]; simp; omega
        have HL := Lib.hid hlp
        clear hpk hlp hpl hown hpt2 hq2
        generalize T2.length = n0 at HL
        go_wp2_with fail
        go_loopg [6] n0 (fun k v wr => RowKit.Hid (LnLp s rb B b d T w k v wr))
        case atStart => exact HL
        case round =>
          obtain ⟨l, Tj, pj, hk, hct, hown, hpt, hq, hfl, hlk⟩ := hrel.out
          have hG2 := HH.out.2.2.1.keep hq.fb.1
          have hcm := comma_pt s rb B b pj g gl gp Tj wr hpt hG2
          have HS := Lib.hid (And.intro hk (And.intro hct (And.intro hown (And.intro hq (And.intro hfl (And.intro hlk hpt.ok))))))
          have HC := Lib.hid hcm
          clear hk hct hown hpt hq hfl hlk hG2 hcm hrel
          go_upto_region 10 with (go_at_call 58; refine HC.out.mono ?_; rintro e w5 ⟨x, v, rfl, hk, hfr⟩)
          have hq5 := HS.out.2.2.2.1.step (Fb.ofFr hfr)
          have hown5 := own_fr HS.out.2.2.1 hfr (by have := HS.out.2.2.2.1.hb; omega) (by have := HS.out.2.2.2.1.hr; omega) (by decide)
          clear hfr
          rcases hk with ⟨rfl, t5, T5, hTt, rfl, htx, p5, hpt5⟩ | ⟨⟨u, y, rfl⟩, hno⟩
          · have htok := HS.out.2.2.2.2.2.2 t5 (by rw [hTt]; exact List.mem_cons_self ..)
            have HTX := Lib.hid htx
            have H5 := Lib.hid (And.intro hq5 (And.intro hown5 (And.intro hpt5 (And.intro hTt htok))))
            clear hq5 hown5 hpt5 hTt htok htx
            rcases HTX.out with h41 | h44
            · have hb : (t5.2 == [44]) = false := by rw [h41]; rfl
              have h4 : t5.1 = 41 := tok_text H5.out.2.2.2.2 (.inr (.inl rfl)) h41
              have hlen : l.length ≤ 100000 := by have := HS.out.2.2.2.2.2.1; omega
              have hdn : LnDone s rb B b d T w u6 w5 := ⟨l.flatten, T5, p5, lineP_of (CtRel.fin (by have := HS.out.2.1; rw [H5.out.2.2.2.1] at this; exact this) h4), H5.out.2.1, H5.out.2.2.1, H5.out.1, ⟨l.length, hlen, HS.out.2.2.2.2.1⟩⟩
              have HDN := Lib.hid hdn; clear hdn h4 h41
              obtain ⟨a6, c6, rfl, -⟩ := row_slice H5.out.2.1
              have h139 := fun W => newSeq_any d l.length l.flatten.length c6 a6 W hd HS.out.2.2.2.2.1 hlen
              have h140 := fun W => newLine_any d l.flatten.length c6 a6 W
              have HN := Lib.hid (And.intro h139 h140); clear h139 h140
              generalize l.flatten.length = nf at *
              go_wp2_with (first | (go_at_call 139; refine (HN.out.1 _).mono ?_; rintro e w2 ⟨rfl, hb2⟩; replace hb2 := Lib.hid hb2) | (go_at_call 140; refine (HN.out.2 _).mono ?_; rintro e w3 ⟨rfl, hb3⟩; have hb4 : Below w5.heap.size w5 w3 := (hb2.out.alloc hb2.out.size _).trans (hb3.mono (by have := hb2.out.size; simp; omega)); obtain ⟨k0, k1, f0, f1⟩ := (HDN.out.q3 hb4).facts; replace hb4 := Lib.hid hb4; clear hb3))
              obtain ⟨q1, q2⟩ := ln_fin HDN.out hb4.out
              refine bodyPost_ret_by (results_row_tmp (u := 5) rfl _ _ w.heap.size 126 _ (0, 0) _ rfl q1 Tryz.underlying126 rfl (by kernel_rfl)) rfl ?_
              exact q2
            · have hb : (t5.2 == [44]) = true := by rw [h44]; rfl
              have h4 : t5.1 = 44 := tok_text H5.out.2.2.2.2 (.inr (.inr rfl)) h44
              have hct := HS.out.2.1
              rw [H5.out.2.2.2.1] at hct
              have hnf : l.flatten.length ≤ 400000 := by
                rw [HS.out.2.2.2.2.1]
                exact Nat.le_trans (Nat.mul_le_mul (show l.length ≤ 100000 by have := HS.out.2.2.2.2.2.1; omega) (show wid d ≤ 4 by unfold wid; omega)) (by decide)
              have hap := append_pt s (w.heap.size + 1) rb B b p5 d l.flatten.length g gl gp l.flatten u6 T5 w5 hs hd H5.out.2.2.1 (HH.out.2.2.1.keep H5.out.1.fb.1) H5.out.2.1 hnf (by have := H5.out.1.hb; omega) (by have := H5.out.1.hr; omega) (by have := H5.out.1.hB; omega) H5.out.1.lt
              have HE2 := Lib.hid (And.intro h4 (And.intro hct hap)); clear h44 h4 hct hap hnf
              go_upto_region 14 with (go_at_call 138; refine HE2.out.2.2.mono ?_; rintro e w6 ⟨v6, err, rfl, hk, hfb⟩)
              have hq6 := H5.out.1.step hfb
              clear hfb
              rcases hk with ⟨ys6, T6, hpl, rfl, hown6, p6, hpt6⟩ | ⟨hpl, ⟨u, y, rfl⟩, -⟩
              · have hpk := plS_ok _ _ _ _ hpl
                have hTj : Tj.length = T5.length + 1 := by rw [H5.out.2.2.2.1]; rfl
                have hlp : LnLp s rb B b d T w T6.length v6 w6 := by
                  refine ⟨l ++ [ys6], T6, p6, rfl, CtRel.comma (plW_nil d) HE2.out.2.1 HE2.out.1 hpl hpk.2.length_le, ?_, hpt6, hq6, ?_, ?_⟩
                  · have hl : (l ++ [ys6]).flatten = l.flatten ++ ys6 := by simp
                    rw [hl, List.length_append, hpk.1]
                    exact hown6
                  · have hl : (l ++ [ys6]).flatten = l.flatten ++ ys6 := by simp
                    rw [hl, List.length_append, hpk.1, HS.out.2.2.2.2.1, List.length_append, List.length_singleton, Nat.succ_mul]
                  · have h1 := hpk.2.length_le
                    have h2 := HS.out.2.2.2.2.2.1
                    have h3 := HS.out.1
                    simp only [List.length_append, List.length_singleton]
                    omega
                have hms : T6.length < Tj.length := by have h1 := hpk.2.length_le; omega
                have HLP := Lib.hid (And.intro hlp hms)
                clear hlp hms hpk hpl hown6 hpt6 hq6 hTj
                go_wp2_with fail
                go_roundg T6.length
                case rel => exact Lib.hid HLP.out.1
                case measure =>
                  have h1 := HLP.out.2
                  have h3 := HS.out.1
                  omega
              · obtain ⟨k0, k1, f0, f1⟩ := hq6.facts
                have H2 := Lib.hid (And.intro hq6 hpl); clear hq6 hpl
                go_wp2_with fail
                obtain ⟨q1, q2, q3, q4⟩ := H2.out.1.fin (.int .u8 0) (.slice none 0 0)
                refine bodyPost_ret_by (results_row_tmp rfl _ _ w.heap.size 126 _ (0, 0) _ rfl q1 Tryz.underlying126 rfl (by kernel_rfl)) rfl ⟨_, _, rfl, .inr ⟨?_, rfl, _, _, rfl⟩, q2⟩
                exact lineP_none (CtRel.bad HE2.out.2.1 HE2.out.1 H2.out.2)
          · obtain ⟨k0, k1, f0, f1⟩ := hq5.facts
            have H2 := Lib.hid (And.intro hq5 hno); clear hq5 hno hown5
            go_wp2_with fail
            obtain ⟨q1, q2, q3, q4⟩ := H2.out.1.fin (.int .u8 0) (.slice none 0 0)
            refine bodyPost_ret_by (results_row_tmp rfl _ _ w.heap.size 126 _ (0, 0) _ rfl q1 Tryz.underlying126 rfl (by kernel_rfl)) rfl ⟨_, _, rfl, .inr ⟨?_, rfl, _, _, rfl⟩, q2⟩
            refine lineP_none (CtRel.none HS.out.2.1 fun t T' hT => ?_)
            obtain ⟨n1, n2⟩ := H2.out.2 t T' hT
            have ho := HS.out.2.2.2.2.2.2 t (by rw [hT]; exact List.mem_cons_self ..)
            exact ⟨fun e => n1 (tok_sign ho e (by decide) (by decide)), fun e => n2 (tok_sign ho e (by decide) (by decide))⟩
      · obtain ⟨k0, k1, f0, f1⟩ := hq2.facts
        have H2 := Lib.hid (And.intro hq2 hpl); clear hq2 hpl
        go_wp2_with fail
        obtain ⟨q1, q2, q3, q4⟩ := H2.out.1.fin (.int .u8 0) (.slice none 0 0)
        refine bodyPost_ret_by (results_row_tmp rfl _ _ w.heap.size 126 _ (0, 0) _ rfl q1 Tryz.underlying126 rfl (by kernel_rfl)) rfl ⟨_, _, rfl, .inr ⟨?_, rfl, _, _, rfl⟩, q2⟩
        rw [H1.out.2.2.2.1]
        exact lineP_none (bodyP_bad HE.out.1 H2.out.2)
  · obtain ⟨k0, k1, f0, f1⟩ := hq1.facts
    have H2 := Lib.hid (And.intro hq1 hno); clear hq1 hno
    go_wp2_with fail
    obtain ⟨q1, q2, q3, q4⟩ := H2.out.1.fin (.int .u8 0) (.slice none 0 0)
    refine bodyPost_ret_by (results_row_tmp rfl _ _ w.heap.size 126 _ (0, 0) _ rfl q1 Tryz.underlying126 rfl (by kernel_rfl)) rfl ⟨_, _, rfl, .inr ⟨?_, rfl, _, _, rfl⟩, q2⟩
    refine lineP_none (bodyP_not fun t T' hT => ?_)
    obtain ⟨n1, n2⟩ := H2.out.2 t T' hT
    exact ⟨n1, fun e => n2 (tok_sign (HH.out.2.2.2 t (by rw [hT]; exact List.mem_cons_self ..)) e (by decide) (by decide))⟩
end Go.Proofs.YtblpcpkkjbkakaaGreatDoor
