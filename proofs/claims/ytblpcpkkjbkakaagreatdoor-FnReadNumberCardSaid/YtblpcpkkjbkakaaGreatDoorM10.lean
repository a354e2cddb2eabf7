/- Lemmas towards the seat's laws: 2 texts joined. -/
import Derived.Test.YtblpcpkkjbkakaaGreatDoorM09
import GoSem.PinnedTables
/- leftShift. -/
namespace Go.Proofs.YtblpcpkkjbkakaaGreatDoor
open Go Go.RowKit
set_option linter.unusedVariables false
set_option linter.unusedSimpArgs false

/-- The table of powers of five. -/
def cutB (k : Nat) : ByteArray := ⟨((Go.Pinned.cheatRows.getD k (0, [])).2).toArray⟩
def cutD (k : Nat) : Nat := (Go.Pinned.cheatRows.getD k (0, [])).1
theorem five_tab (k : Nat) (h1 : 1 ≤ k) (h2 : k ≤ 60) : Five (cutB k) k ∧ cutD k + (cutB k).size = k + 1 ∧ (cutB k).size ≤ 100 := by
  have h : ∀ k : Fin 61, 1 ≤ k.1 → ((1 ≤ (cutB k.1).size ∧ (∀ i, i < (cutB k.1).size → 48 ≤ bat (cutB k.1) i ∧ bat (cutB k.1) i < 58) ∧ 49 ≤ bat (cutB k.1) ((cutB k.1).size - 1) ∧
    pn (cutB k.1).size (cdg (cutB k.1)) (cutB k.1).size = 5 ^ k.1 ∧ 10 ^ ((cutB k.1).size - 1) ≤ 5 ^ k.1 ∧ 5 ^ k.1 < 10 ^ (cutB k.1).size) ∧ cutD k.1 + (cutB k.1).size = k.1 + 1 ∧ (cutB k.1).size ≤ 100) := by decide +kernel
  exact h ⟨k, by omega⟩ h1
structure GlL (g : Nat × Nat) (w : World) : Prop where
  tab : w.cell? ⟨15, 0, none⟩ = some (.slice (some ⟨g.1, g.2, none⟩) 61 61)
  del : ∀ k, k < 61 → w.cell? ⟨g.1, g.2 + k * 2, none⟩ = some (.int .i64 (cutD k))
  cut : ∀ k, k < 61 → w.cell? ⟨g.1, g.2 + k * 2 + 1, none⟩ = some (.string (cutB k))

theorem lsLn_cut (k : Nat) (h1 : 1 ≤ k) (h2 : k ≤ 60) (s : DS) (hs : s.Good) : (lsLn k s : Int) = s.nd + (cutD k) - (if plt s.nd s.g (cutB k) (cutB k).size 0 then 1 else 0) := by
  obtain ⟨hF, hD, _⟩ := five_tab k h1 h2
  obtain ⟨a, b, c⟩ := lsL_law s.nd s.g hs.1 hs.2.2.1 hs.2.2.2 (cutB k) k hF h1
  obtain ⟨d, e⟩ := lsL_ge s.nd s.g hs.1 hs.2.2.1 hs.2.2.2 (cutB k) k hF h1
  have hL : lsLn k s = lsL s.nd s.g (cutB k) k := lsLen_eq _ _ _ b c e
  rw [hL]
  have hq := five_le _ k hF h1
  unfold lsL
  split <;> omega

def LsInv (b nd : Nat) (g : Nat → Nat) (dp : Int) (ng tr : Bool) (P L m : Nat) (w wx : World) : Prop :=
  DFr b w wx ∧ ∃ Rr, Raw wx b Rr (nd : Int) dp ng (lsT P L tr m) ∧ (∀ i, i + m < nd → Rr i = some (.int .u8 ((48 + g i : Nat) : Int))) ∧ ∀ i, L ≤ i + m → i < L → i < 800 → Rr i = some (.int .u8 ((48 + lsD P L i : Nat) : Int))
theorem LsInv.drew {b nd : Nat} {g : Nat → Nat} {dp : Int} {ng tr : Bool} {P L m : Nat} {w wx : World} (h : LsInv b nd g dp ng tr P L m w wx) (n : Nat) : LsInv b nd g dp ng tr P L m w (wx.drewN n) := ⟨h.1.drewN n, h.2⟩
/-- A digit is put down. -/
theorem LsInv.put {b nd : Nat} {g : Nat → Nat} {dp : Int} {ng tr : Bool} {P L m : Nat} {w wx : World} (h : LsInv b nd g dp ng tr P L m w wx) (hm : m < L) (hL : nd ≤ L) (i : Nat) (hi : i + m + 1 = L) (h8 : i < 800) :
    LsInv b nd g dp ng tr P L (m + 1) w (wx.setCell ⟨b, i, none⟩ (.int .u8 ((48 + P / 10 ^ m % 10 : Nat) : Int))) := by
  obtain ⟨hf, R, h1, h2, h3⟩ := h
  have hd : lsD P L i = P / 10 ^ m % 10 := by unfold lsD; rw [show L - 1 - i = m by omega]
  have ht : lsT P L tr (m + 1) = lsT P L tr m := by
    show (lsT P L tr m || (decide (800 ≤ L - 1 - m) && _)) = _
    rw [decide_eq_false (by omega : ¬ 800 ≤ L - 1 - m)]; simp
  have hlt : 48 + P / 10 ^ m % 10 < 256 := by have := Nat.mod_lt (P / 10 ^ m) (by decide : 10 > 0); omega
  refine ⟨hf.set _ _, _, ht ▸ h1.byte i h8 _ hlt, fun j hj => ?_, fun j h4 h5 h6 => ?_⟩
  · rw [upd_ne _ _ _ _ (by omega)]; exact h2 j (by omega)
  · by_cases e : j = i
    · rw [e, upd_at, hd]
    · rw [upd_ne _ _ _ _ e]; exact h3 j (by omega) h5 h6
theorem LsInv.cutT {b nd : Nat} {g : Nat → Nat} {dp : Int} {ng tr : Bool} {P L m : Nat} {w wx : World} (h : LsInv b nd g dp ng tr P L m w wx) (hm : m < L) (hL : nd ≤ L) (i : Nat) (hi : i + m + 1 = L) (h8 : 800 ≤ i) (hn8 : nd ≤ 800) (h0 : P / 10 ^ m % 10 ≠ 0) :
    LsInv b nd g dp ng tr P L (m + 1) w (wx.setCell ⟨b, 803, none⟩ (.bool true)) := by
  obtain ⟨hf, R, h1, h2, h3⟩ := h
  have ht : lsT P L tr (m + 1) = true := by
    show (lsT P L tr m || (decide (800 ≤ L - 1 - m) && decide (P / 10 ^ m % 10 ≠ 0))) = _
    rw [decide_eq_true (by omega : 800 ≤ L - 1 - m), decide_eq_true h0]; simp
  refine ⟨hf.set _ _, _, by rw [ht]; exact h1.rest true, fun j hj => ?_, fun j h4 h5 h6 => ?_⟩
  · rw [upd_ne _ _ _ _ (by omega)]; exact h2 j (by omega)
  · rw [upd_ne _ _ _ _ (by omega)]; exact h3 j (by omega) h5 h6
theorem LsInv.cutF {b nd : Nat} {g : Nat → Nat} {dp : Int} {ng tr : Bool} {P L m : Nat} {w wx : World} (h : LsInv b nd g dp ng tr P L m w wx) (hm : m < L) (hL : nd ≤ L) (i : Nat) (hi : i + m + 1 = L) (h8 : 800 ≤ i) (h0 : P / 10 ^ m % 10 = 0) :
    LsInv b nd g dp ng tr P L (m + 1) w wx := by
  obtain ⟨hf, R, h1, h2, h3⟩ := h
  have ht : lsT P L tr (m + 1) = lsT P L tr m := by
    show (lsT P L tr m || (decide (800 ≤ L - 1 - m) && decide (P / 10 ^ m % 10 ≠ 0))) = _
    rw [decide_eq_false (by omega : ¬ P / 10 ^ m % 10 ≠ 0)]; simp
  exact ⟨hf, R, ht ▸ h1, fun j hj => h2 j (by omega), fun j h4 h5 h6 => h3 j (by omega) h5 h6⟩
def LsPost (k b : Nat) (s : DS) (ng : Bool) (w : World) (e : Ending) (w' : World) : Prop :=
  e = .returned (.tuple #[]) ∧ (lsS k s).At ng w' b ∧ DFr b w w'

theorem run_slice_dec (b nd : Nat) (h : nd ≤ 800) (W : World) : (Instr.sliceAt 206 (.pointer (some ⟨b, 0, none⟩)) (some (.int .i64 0)) (some (.int .i64 (nd : Int))) none).run Tryz.prog W = .ok (.slice (some ⟨b, 0, none⟩) nd 800) W := by
  have hal : Tryz.prog.arrayLen 206 = 800 := by kernel_rfl
  have hs : (sizeOf (Tryz.prog.elem 206)).run Tryz.prog W = .ok 1 W := by kernel_rfl
  rw [run_sliceAt_array_lh W 206 ⟨b, 0, none⟩ (by kernel_rfl) .i64 .i64 0 (nd : Int) (by omega) (by omega) (by rw [hal]; omega), hal, hs]
  simp [slicedAt, Result.andThen]
  rfl
set_option maxRecDepth 100000 in
set_option maxHeartbeats 1000000 in
theorem left_any (b : Nat) (gl : Nat × Nat) (s : DS) (ng : Bool) (k : Nat) (w : World) (h : s.At ng w b) (hs : s.Good) (hk1 : 1 ≤ k) (hk : k ≤ 60) (hd1 : -1000000 ≤ s.dp) (hd2 : s.dp ≤ 1000000) (hG : GlL gl w) :
    Calls Tryz.prog 167 #[.pointer (some ⟨b, 0, none⟩), .int .u64 (k : Int)] w (LsPost k b s ng w) := by
  have hcl := lsLn_cut k hk1 hk s hs
  have hlaw := lsLn_law k s hs
  obtain ⟨hF, hDS, hq100⟩ := five_tab k hk1 hk
  have hS : lsS k s = ⟨trimN (lsD (lsP k s) (lsLn k s)) (min (lsLn k s) 800), lsD (lsP k s) (lsLn k s), s.dp + ((lsLn k s : Int) - s.nd), lsT (lsP k s) (lsLn k s) s.tr (lsLn k s)⟩ := rfl
  obtain ⟨nd, g, dp, tr⟩ := s
  obtain ⟨h0, h800, hg0, hg⟩ := hs
  dsimp only at h0 h800 hg0 hg hd1 hd2 hcl hlaw hS
  have h : Dec w b nd g dp ng tr := h
  obtain ⟨L, hL⟩ : ∃ L, L = lsLn k ⟨nd, g, dp, tr⟩ := ⟨_, rfl⟩
  obtain ⟨X, hX⟩ : ∃ X, X = pn nd g nd := ⟨_, rfl⟩
  obtain ⟨P, hP⟩ : ∃ P, P = lsP k ⟨nd, g, dp, tr⟩ := ⟨_, rfl⟩
  have hPX : P = X * 2 ^ k := by rw [hP, hX]; rfl
  rw [← hL] at hcl hlaw hS
  rw [← hP] at hlaw hS
  obtain ⟨l1, l2, l3, l4, l5⟩ := hlaw
  have hXl : X < 10 ^ nd := by rw [hX]; exact pn_lt nd g hg nd
  have hXd : ∀ m, m < nd → X / 10 ^ m % 10 = g (nd - 1 - m) := fun m hm => by rw [hX]; exact pn_digit nd g hg m hm
  have HX := Lib.hid (And.intro hXl (And.intro hXd hPX))
  have HPL := Lib.hid (And.intro l4 l5)
  have HS := Lib.hid hS
  have HG := Lib.hid (And.intro h0 (And.intro hg0 hg))
  have HH := Lib.hid h
  clear hXl hXd hPX hX hP hS l4 l5 h0 hg0 hg hL h
  obtain ⟨c0, c1, -, -, cd, cf⟩ := HH.out.cells
  have t0 := hG.tab
  have t1 := hG.del k (by omega)
  have t2 := hG.cut k (by omega)
  obtain ⟨C, hC⟩ : ∃ C, C = cutB k := ⟨_, rfl⟩
  obtain ⟨Dl, hDl⟩ : ∃ Dl, Dl = cutD k := ⟨_, rfl⟩
  rw [← hC] at t2 hcl hq100 hDS hF
  rw [← hDl] at t1 hcl hDS
  have HF := Lib.hid hF
  clear hC hDl cd cf hF
  obtain ⟨B, hB⟩ : ∃ B, B = plt nd g C C.size 0 := ⟨_, rfl⟩
  have hcall := fun n => prefix_any b nd g dp ng tr 800 C (w.drewN n) (HH.out.drew n) (by omega) h800
  rw [← hB] at hcl hcall
  have HC := Lib.hid hcall
  clear hcall hB
  go_enter Tryz.func167, Tryz.ntmps167
  go_wp2_with fail
  go_quiet (first | (rw [run_slice_dec b nd h800]; exact ⟨rfl, rfl⟩) | (refine (HC.out _).mono ?_; rintro e w' ⟨rfl, n, rfl⟩; exact ⟨rfl, _, World.drewN_drewN ..⟩))
  revert nq; intro n1
  go_upto_if 30 with fail
  go_cut [4] (fun d wx => d = .int .i64 ((L : Int) - nd) ∧ wx = w.drewN n1)
  case first =>
    cases B with
    | true =>
      have hcut2 : (L : Int) = nd + Dl - 1 := by simpa using hcl
      have HCU := Lib.hid hcut2; clear hcl hcut2
      go_wp2_with fail
      go_meet
      case rel => exact ⟨by have h9 := HCU.out; congr 1; omega, rfl⟩
    | false =>
      have hcut2 : (L : Int) = nd + Dl := by simpa using hcl
      have HCU := Lib.hid hcut2; clear hcl hcut2
      go_wp2_with fail
      go_meet
      case rel => exact ⟨by have h9 := HCU.out; congr 1; omega, rfl⟩
  case rest =>
    obtain ⟨rfl, rfl⟩ := hcut
    have hinv : LsInv b nd g dp ng tr P L 0 w (w.drewN n1) := by
      obtain ⟨e1, e2, R, e3, e4⟩ := HH.out
      exact ⟨(DFr.refl b w).drewN n1, R, e3, fun i hi => e4 i (by omega), fun i hi hi2 => absurd hi2 (by omega)⟩
    have HI := Lib.hid hinv; clear hinv t0 t1 t2 hq100 hDS HC HF hcl
    obtain ⟨W1, hW1⟩ : ∃ W1, W1 = w.drewN n1 := ⟨_, rfl⟩
    rw [← hW1] at HI ⊢
    have c0' : W1.cell? ⟨b, 800, none⟩ = some (.int .i64 (nd : Int)) := by rw [hW1]; exact c0
    clear c0 c1 hW1
    have hpk : 0 < 2 ^ k := Nat.pow_pos (by decide)
    have hpk2 := two_pow_lt k hk
    obtain ⟨Q, hQ⟩ : ∃ Q : Nat, Q = 2 ^ k := ⟨_, rfl⟩
    have hQ2 : (2 : Int) ^ k = (Q : Int) := by rw [hQ]; simp
    rw [← hQ] at hpk hpk2
    have HQ := Lib.hid hQ; clear hQ
    go_upto_block 0 with fail
    go_cut [6, 7] (fun wi n wx => wi = .int .i64 ((L : Int) - nd) ∧ n = .int .u64 (lsn X k nd : Nat) ∧ RowKit.Hid (LsInv b nd g dp ng tr P L nd w wx))
    case first =>
      go_wp2_with fail
      go_loopg [5, 6, 7] nd (fun gk r wi n wr => ∃ m, m + gk = nd ∧ r = .int .i64 ((gk : Int) - 1) ∧ wi = .int .i64 ((L : Int) - m) ∧ n = .int .u64 (lsn X k m : Nat) ∧ RowKit.Hid (LsInv b nd g dp ng tr P L m w wr))
      case atStart => exact ⟨0, by omega, rfl, by congr 1; omega, by rw [lsn_zero]; rfl, HI⟩
      case round =>
        obtain ⟨m, hm, rfl, rfl, rfl, hinv⟩ := hrel
        by_cases hz : gk = 0
        · subst hz
          have hmn : m = nd := by omega
          subst hmn
          go_wp2_with fail
          go_meet
          case rel => exact ⟨rfl, rfl, hinv⟩
        · obtain ⟨j, rfl⟩ : ∃ j, gk = j + 1 := ⟨gk - 1, by omega⟩
          obtain ⟨hf, Rr, hraw, hr1, hr2⟩ := hinv.out
          have cj : wr.cell? ⟨b, j, none⟩ = some (.int .u8 ((48 + g j : Nat) : Int)) := (hraw.1.cell j).trans (hr1 j (by omega))
          have ff := hraw.cells.2.2.2.2.1
          have fj : L < 801 + m → wr.frozen? ⟨b, L - 1 - m, none⟩ = false := fun _ => ff _
          have ft := ff 803
          clear hf hraw hr1 hr2 ff
          have hgj := HG.out.2.2 j (by omega)
          have hXj := HX.out.2.1 m (by omega)
          rw [show nd - 1 - m = j by omega] at hXj
          have hlt := lsn_lt X k m
          have hquo := lsn_quo X k m
          have hrem := lsn_rem X k m
          rw [hXj] at hquo hrem
          rw [← HX.out.2.2] at hrem
          rw [← HQ.out] at hlt hquo hrem
          obtain ⟨n, hn⟩ : ∃ n, n = lsn X k m := ⟨_, rfl⟩
          obtain ⟨y, hy⟩ : ∃ y, y = g j := ⟨_, rfl⟩
          rw [← hn] at hlt hquo hrem ⊢
          rw [← hy] at cj hgj hquo hrem
          clear hXj hn hy
          have hyQ : y * Q ≤ 9 * Q := Nat.mul_le_mul_right _ (by omega)
          obtain ⟨T, hT⟩ : ∃ T, T = n + y * Q := ⟨_, rfl⟩
          rw [← hT] at hquo hrem
          have hT64 : T < 18446744073709551616 := by omega
          have hsh : IntKind.u64.wrap ((y : Int) * Q) = ((y * Q : Nat) : Int) := by rw [IntKind.wrap_u64, ← Int.natCast_mul]; omega
          go_upto_region 9 with fail
          go_cut [7] (fun t wx => t = .int .u64 (T : Nat) ∧ wr = wx)
          case first =>
            go_wp2_with fail
            go_meet
            case rel => exact ⟨by rw [show (48 + (y : Int) - 48) = y by omega, hsh]; congr 1; rw [IntKind.wrap_u64]; omega, rfl⟩
          case rest =>
            obtain ⟨rfl, rfl⟩ := hcut
            clear hsh hyQ hgj cj hT hlt
            obtain ⟨i, hi⟩ : ∃ i, i + m + 1 = L := ⟨L - 1 - m, by omega⟩
            have fi : i < 800 → wr.frozen? ⟨b, i, none⟩ = false := fun h => by rw [show i = L - 1 - m by omega]; exact fj (by omega)
            have HR0 := Lib.hid (And.intro hrem hquo); clear hrem hquo
            go_upto_region 11 with fail
            go_cut [9] (fun r wx => r = .int .u64 (T % 10 : Nat) ∧ wr = wx)
            case first =>
              go_wp2_with fail
              go_meet
              case rel => exact ⟨by congr 1; omega, rfl⟩
            case rest =>
              obtain ⟨rfl, rfl⟩ := hcut
              obtain ⟨hrem, hquo⟩ := HR0.out
              clear HR0
              have hT10 : T % 10 < 10 := Nat.mod_lt _ (by decide)
              obtain ⟨d, hd⟩ : ∃ d, d = T % 10 := ⟨_, rfl⟩
              rw [← hd] at hT10 hrem ⊢
              have HR := Lib.hid (And.intro hrem (And.intro hquo hd)); clear hrem hquo hd fj
              have hwi : IntKind.i64.wrap ((L : Int) - m - 1) = (i : Int) := by rw [IntKind.wrap_i64]; omega
              by_cases h8 : i < 800
              · have fi := fi h8
                obtain ⟨z, hz1, hz2⟩ : ∃ z : Nat, z < 256 ∧ wr.cell? ⟨b, i, none⟩ = some (.int .u8 (z : Int)) := by
                  obtain ⟨-, R, hr, -⟩ := hinv.out
                  obtain ⟨x, h1, h2⟩ := hr.2.1 i h8
                  exact ⟨x, h1, (hr.1.cell i).trans h2⟩
                go_wp2_with fail
                go_roundg j
                case rel =>
                  have hp := hinv.out.put (by omega) l2 i hi h8
                  rw [← HR.out.1] at hp
                  refine ⟨m + 1, by omega, by congr 1 <;> omega, by congr 1 <;> omega, ?_, ?_⟩
                  · rw [← HR.out.2.1]; rfl
                  · rw [show ((d : Int) + 48) = ((48 + d : Nat) : Int) by omega]; exact Lib.hid hp
                case measure => omega
              · by_cases hd0 : d = 0
                · subst hd0
                  go_wp2_with fail
                  go_roundg j
                  case rel =>
                    have hp := hinv.out.cutF (by omega) l2 i hi (by omega) HR.out.1.symm
                    refine ⟨m + 1, by omega, by congr 1 <;> omega, by congr 1 <;> omega, ?_, Lib.hid hp⟩
                    rw [← HR.out.2.1]; rfl
                  case measure => omega
                · have hd1 : ((d : Int) != 0) = true := by rw [bne_iff_ne]; omega
                  obtain ⟨z, hz2⟩ : ∃ z : Bool, wr.cell? ⟨b, 803, none⟩ = some (.bool z) := by
                    obtain ⟨-, R, hr, -⟩ := hinv.out
                    exact ⟨_, hr.cells.2.2.2.1⟩
                  go_wp2_with fail
                  go_roundg j
                  case rel =>
                    have hp := hinv.out.cutT (by omega) l2 i hi (by omega) h800 (by rw [← HR.out.1]; exact hd0)
                    refine ⟨m + 1, by omega, by congr 1 <;> omega, by congr 1 <;> omega, ?_, Lib.hid hp⟩
                    rw [← HR.out.2.1]; rfl
                  case measure => omega
    case rest =>
      obtain ⟨rfl, rfl, hinv0⟩ := hcut
      clear HI c0'
      go_upto_block 2 with fail
      go_cut [6, 7] (fun wi n wx => RowKit.Hid (LsInv b nd g dp ng tr P L L w wx))
      case first =>
        go_wp2_with fail
        go_loopg [6, 7] (L - nd) (fun gk wi n wr => ∃ m, m + gk = L ∧ nd ≤ m ∧ wi = .int .i64 ((gk : Nat) : Int) ∧ n = .int .u64 (P / 10 ^ m : Nat) ∧ RowKit.Hid (LsInv b nd g dp ng tr P L m w wr))
        case atStart => exact ⟨nd, by omega, Nat.le_refl _, by congr 1; omega, by rw [lsn_big X k nd nd HX.out.1 (Nat.le_refl _), HX.out.2.2], hinv0⟩
        case round =>
          obtain ⟨m, hm, hnm, rfl, rfl, hinv⟩ := hrel
          by_cases hz : gk = 0
          · subst hz
            have hmn : m = L := by omega
            subst hmn
            have h0 : P / 10 ^ m = 0 := Nat.div_eq_of_lt HPL.out.2
            rw [h0]
            clear h0
            go_wp2_with fail
            go_meet
            case rel => exact hinv
          · obtain ⟨i, rfl⟩ : ∃ i, gk = i + 1 := ⟨gk - 1, by omega⟩
            have hi : i + m + 1 = L := by omega
            have hTp : 0 < P / 10 ^ m := by
              apply Nat.div_pos _ (Nat.pow_pos (by decide))
              exact Nat.le_trans (Nat.pow_le_pow_right (by decide) (by omega)) HPL.out.1
            have hT64 : P / 10 ^ m < 18446744073709551616 := by
              have hb := lsn_big X k m nd HX.out.1 hnm
              rw [← HX.out.2.2] at hb
              rw [← hb]
              have := lsn_lt X k m
              rw [← HQ.out] at this
              omega
            have hquo : P / 10 ^ m / 10 = P / 10 ^ (m + 1) := by rw [Nat.div_div_eq_div_mul, Nat.pow_succ]
            obtain ⟨T, hT⟩ : ∃ T, T = P / 10 ^ m := ⟨_, rfl⟩
            have hrem : T % 10 = P / 10 ^ m % 10 := by rw [hT]
            rw [← hT] at hTp hT64 hquo ⊢
            have HR0 := Lib.hid (And.intro hrem hquo); clear hrem hquo hT
            have fi : i < 800 → wr.frozen? ⟨b, i, none⟩ = false := fun h => by
              obtain ⟨-, R, hr, -⟩ := hinv.out
              exact hr.cells.2.2.2.2.1 i
            have ft : wr.frozen? ⟨b, 803, none⟩ = false := by
              obtain ⟨-, R, hr, -⟩ := hinv.out
              exact hr.cells.2.2.2.2.1 803
            have hTp2 : (0 < T) = True := eq_true hTp
            go_upto_region 20 with fail
            go_cut [11] (fun r wx => r = .int .u64 (T % 10 : Nat) ∧ wr = wx)
            case first =>
              go_wp2_with fail
              go_meet
              case rel => exact ⟨by congr 1; omega, rfl⟩
            case rest =>
              obtain ⟨rfl, rfl⟩ := hcut
              obtain ⟨hrem, hquo⟩ := HR0.out
              clear HR0
              have hT10 : T % 10 < 10 := Nat.mod_lt _ (by decide)
              obtain ⟨d, hd⟩ : ∃ d, d = T % 10 := ⟨_, rfl⟩
              rw [← hd] at hT10 hrem ⊢
              have HR := Lib.hid (And.intro hrem (And.intro hquo hd)); clear hrem hquo hd
              by_cases h8 : i < 800
              · have fi := fi h8
                obtain ⟨z, hz1, hz2⟩ : ∃ z : Nat, z < 256 ∧ wr.cell? ⟨b, i, none⟩ = some (.int .u8 (z : Int)) := by
                  obtain ⟨-, R, hr, -⟩ := hinv.out
                  obtain ⟨x, h1, h2⟩ := hr.2.1 i h8
                  exact ⟨x, h1, (hr.1.cell i).trans h2⟩
                go_wp2_with fail
                go_roundg i
                case rel =>
                  have hp := hinv.out.put (by omega) l2 i hi h8
                  rw [← HR.out.1] at hp
                  refine ⟨m + 1, by omega, by omega, by congr 1 <;> omega, ?_, ?_⟩
                  · rw [← HR.out.2.1] <;> rfl
                  · rw [show ((d : Int) + 48) = ((48 + d : Nat) : Int) by omega]; exact Lib.hid hp
                case measure => omega
              · exact absurd h8 (by omega)
      case rest =>
        clear hinv0
        have hinv := hcut
        clear hcut
        obtain ⟨hfr, Rr, hraw, -, hdg⟩ := hinv.out
        obtain ⟨c0, c1, -, -, cf, -⟩ := hraw.cells
        have f0 := cf 800
        have f1 := cf 801
        have hS := HS.out
        have hfin : ∀ N w', N = min L 800 → Dec w' b (trimN (lsD P L) N) (lsD P L) (if trimN (lsD P L) N = 0 then 0 else dp + ((L : Int) - nd)) ng (lsT P L tr L) → DFr b w w' → LsPost k b ⟨nd, g, dp, tr⟩ ng w (.returned (.tuple #[])) w' := by
          intro N w' hN h1 h2
          have hf := lsD_first P L HPL.out.1 HPL.out.2 l1
          have hp := trimN_pos (lsD P L) N (by omega) hf
          rw [if_neg (by omega)] at h1
          rw [hN] at h1
          refine ⟨rfl, ?_, h2⟩
          rw [hS]
          exact h1
        have HFN := Lib.hid hfin
        have hnl : (nd : Int) + ((L : Int) - nd) = (L : Int) := by omega
        by_cases h8 : L < 800
        · have hdec : Dec ((wc.setCell ⟨b, 800, none⟩ (.int .i64 (L : Int))).setCell ⟨b, 801, none⟩ (.int .i64 (dp + ((L : Int) - nd)))) b L (lsD P L) (dp + ((L : Int) - nd)) ng (lsT P L tr L) :=
            ⟨by omega, fun i _ => lsD_lt _ _ _, _, (hraw.num (L : Int)).point _, fun i hi => by rw [upd_ne _ _ _ _ (by omega), upd_ne _ _ _ _ (by omega)]; exact hdg i (by omega) (by omega) (by omega)⟩
          have HT := Lib.hid (trim_any b L (lsD P L) _ ng _ _ hdec)
          have HD := Lib.hid ((hfr.set 800 (.int .i64 (L : Int))).set 801 (.int .i64 (dp + ((L : Int) - nd))))
          clear hfin hS hraw hdg cf hdec hfr hinv
          go_wp2_with (go_at_call 175; refine HT.out.mono ?_; rintro e w' ⟨rfl, k2, k3⟩)
          go_end0
          exact HFN.out L _ (by omega) k2 (HD.out.trans k3)
        · have hdec : Dec (((wc.setCell ⟨b, 800, none⟩ (.int .i64 (L : Int))).setCell ⟨b, 800, none⟩ (.int .i64 800)).setCell ⟨b, 801, none⟩ (.int .i64 (dp + ((L : Int) - nd)))) b 800 (lsD P L) (dp + ((L : Int) - nd)) ng (lsT P L tr L) :=
            ⟨by omega, fun i _ => lsD_lt _ _ _, _, ((hraw.num (L : Int)).num 800).point _, fun i hi => by rw [upd_ne _ _ _ _ (by omega), upd_ne _ _ _ _ (by omega), upd_ne _ _ _ _ (by omega)]; exact hdg i (by omega) (by omega) (by omega)⟩
          have HT := Lib.hid (trim_any b 800 (lsD P L) _ ng _ _ hdec)
          have HD := Lib.hid (((hfr.set 800 (.int .i64 (L : Int))).set 800 (.int .i64 800)).set 801 (.int .i64 (dp + ((L : Int) - nd))))
          clear hfin hS hraw hdg cf hdec hfr hinv
          go_wp2_with (go_at_call 175; refine HT.out.mono ?_; rintro e w' ⟨rfl, k2, k3⟩)
          go_end0
          exact HFN.out 800 _ (by omega) k2 (HD.out.trans k3)

end Go.Proofs.YtblpcpkkjbkakaaGreatDoor
/- Shift. -/
namespace Go.Proofs.YtblpcpkkjbkakaaGreatDoor
open Go Go.RowKit
set_option linter.unusedVariables false
set_option linter.unusedSimpArgs false

def ShPost (b : Nat) (s' : DS) (ng : Bool) (w : World) (e : Ending) (w' : World) : Prop :=
  e = .returned (.tuple #[]) ∧ s'.At ng w' b ∧ DFr b w w'
theorem rightS_any (b : Nat) (s : DS) (ng : Bool) (k : Nat) (kk : Int) (w : World) (h : s.At ng w b) (hs : s.Good) (hk1 : 1 ≤ k) (hk : k ≤ 60) (hd1 : -1000000 ≤ s.dp) (hd2 : s.dp ≤ 1000000) (hkk : kk = k) :
    Calls Tryz.prog 168 #[.pointer (some ⟨b, 0, none⟩), .int .u64 kk] w (ShPost b (rsS k s) ng w) := by
  subst hkk
  refine (right_any b s.nd s.g s.dp ng s.tr k w h hs.1 hs.2.2.1 hk1 hk hd1 hd2).mono ?_
  rintro e w' ⟨rfl, h1, h2⟩
  exact ⟨rfl, h1, h2⟩
theorem leftS_any (b : Nat) (gl : Nat × Nat) (s : DS) (ng : Bool) (k : Nat) (kk : Int) (w : World) (h : s.At ng w b) (hs : s.Good) (hk1 : 1 ≤ k) (hk : k ≤ 60) (hd1 : -1000000 ≤ s.dp) (hd2 : s.dp ≤ 1000000) (hG : GlL gl w) (hkk : kk = k) :
    Calls Tryz.prog 167 #[.pointer (some ⟨b, 0, none⟩), .int .u64 kk] w (ShPost b (lsS k s) ng w) := by
  subst hkk
  refine (left_any b gl s ng k w h hs hk1 hk hd1 hd2 hG).mono ?_
  rintro e w' ⟨rfl, h1, h2⟩
  exact ⟨rfl, h1, h2⟩

set_option maxRecDepth 100000 in
set_option maxHeartbeats 1000000 in
theorem shiftL_any (b : Nat) (gl : Nat × Nat) (s : DS) (ng : Bool) (k : Nat) (kk : Int) (w : World) (h : s.At ng w b) (hs : s.Good) (hk1 : 1 ≤ k) (hk : k ≤ 60) (hd1 : -1000000 ≤ s.dp) (hd2 : s.dp ≤ 1000000) (hG : GlL gl w) (hkk : kk = k) :
    Calls Tryz.prog 160 #[.pointer (some ⟨b, 0, none⟩), .int .i64 kk] w (ShPost b (lsS k s) ng w) := by
  obtain ⟨c0, -, -, -, -, -⟩ := Dec.cells h
  have h0 := hs.1
  obtain ⟨n, hn⟩ : ∃ n, s.nd = n + 1 := ⟨s.nd - 1, by omega⟩
  rw [hn] at c0
  have HC := Lib.hid (fun x hx => leftS_any b gl s ng k x w h hs hk1 hk hd1 hd2 hG hx)
  clear h hs hG hd1 hd2 hn h0
  subst hkk
  go_enter Tryz.func160, Tryz.ntmps160
  go_wp2_with fail
  go_loop [1] (fun x => x = .int .i64 (k : Int)) (fun _ => 0)
  case atStart => rfl
  case round =>
    subst hrel
    go_wp2_with (go_at_call 167; refine (HC.out _ ?_).mono ?_; rotate_left; rintro e w' ⟨rfl, k2, k3⟩)
    · go_end0
      exact ⟨rfl, k2, k3⟩
    · rfl

set_option maxRecDepth 100000 in
set_option maxHeartbeats 1000000 in
theorem shiftR_any (b : Nat) (s : DS) (ng : Bool) (K : Nat) (kk : Int) (w : World) (h : s.At ng w b) (hs : s.Good) (hk1 : 1 ≤ K) (hk : K ≤ 200000) (hd1 : -10000 ≤ s.dp) (hd2 : s.dp ≤ 10000) (hkk : kk = -(K : Int)) :
    Calls Tryz.prog 160 #[.pointer (some ⟨b, 0, none⟩), .int .i64 kk] w (ShPost b (shr K K s) ng w) := by
  obtain ⟨c0, -, -, -, -, -⟩ := Dec.cells h
  have h0 := hs.1
  obtain ⟨n, hn⟩ : ∃ n, s.nd = n + 1 := ⟨s.nd - 1, by omega⟩
  rw [hn] at c0
  have H := Lib.hid (And.intro h (And.intro hs (And.intro hd1 hd2)))
  clear h hs hd1 hd2 hn h0
  subst hkk
  have e1 : (((n : Int) + 1) == 0) = false := beq_false_of_ne (by omega)
  have e2 : (0 < K) = True := eq_true (by omega)
  have e3 : ((K : Int) < 0) = False := eq_false (by omega)
  go_enter Tryz.func160, Tryz.ntmps160
  go_wp2_with fail
  go_loopg [1] K (fun f x wr => ∃ K' s', 1 ≤ K' ∧ K' ≤ f ∧ K' ≤ K ∧ x = .int .i64 (-(K' : Int)) ∧ RowKit.Hid (s'.At ng wr b) ∧ RowKit.Hid (DFr b w wr) ∧ RowKit.Hid (s'.Good ∧ -10000 - ((K : Int) - K') ≤ s'.dp ∧ s'.dp ≤ 10000) ∧ RowKit.Hid (shr K K s = shr f K' s'))
  case atStart => exact ⟨K, s, hk1, Nat.le_refl _, Nat.le_refl _, rfl, Lib.hid H.out.1, Lib.hid (DFr.refl _ _), Lib.hid ⟨H.out.2.1, by have := H.out.2.2; omega⟩, Lib.hid rfl⟩
  case round =>
    obtain ⟨K', s', h1, h2, h3, rfl, hat, hfr, hgd, heq⟩ := hrel
    by_cases h60 : 60 < K'
    · obtain ⟨f, rfl⟩ : ∃ f, gk = f + 1 := ⟨gk - 1, by omega⟩
      have he := heq.out
      rw [shr_on f K' s' h60] at he
      have HC := Lib.hid (rightS_any b s' ng 60 60 wr hat.out hgd.out.1 (by decide) (by decide) (by have := hgd.out.2; omega) (by have := hgd.out.2; omega) rfl)
      have HG := Lib.hid (And.intro (rsS_good 60 (by decide) s' hgd.out.1) (And.intro (rsS_dp 60 (by decide) s' hgd.out.1) hgd.out.2))
      have HE := Lib.hid he
      clear he heq hat hgd
      go_wp2_with (go_at_call 168; refine HC.out.mono ?_; rintro e w' ⟨rfl, k2, k3⟩)
      go_roundg f
      case rel => exact ⟨K' - 60, rsS 60 s', by omega, by omega, by omega, by congr 1; omega, Lib.hid k2, Lib.hid (hfr.out.trans k3), Lib.hid ⟨HG.out.1, by have := HG.out.2; omega⟩, HE⟩
      case measure => omega
    · have he := heq.out
      rw [shr_off gk K' s' (by omega)] at he
      have HC := Lib.hid (fun x hx => rightS_any b s' ng K' x wr hat.out hgd.out.1 h1 (by omega) (by have := hgd.out.2; omega) (by have := hgd.out.2; omega) hx)
      have HE := Lib.hid he
      clear he heq hat hgd
      go_wp2_with (go_at_call 168; refine (HC.out _ ?_).mono ?_; rotate_left; rintro e w' ⟨rfl, k2, k3⟩)
      · go_end0
        exact ⟨rfl, by rw [HE.out]; exact k2, hfr.out.trans k3⟩
      · rfl

end Go.Proofs.YtblpcpkkjbkakaaGreatDoor
