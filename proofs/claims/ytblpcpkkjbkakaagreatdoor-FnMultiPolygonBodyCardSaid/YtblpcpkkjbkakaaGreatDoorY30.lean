/- Lemmas towards the seat's laws: 1 texts joined. -/
import Derived.Test.YtblpcpkkjbkakaaGreatDoorY24
import Derived.Test.YtblpcpkkjbkakaaGreatDoorY08
/- The fast reading of floats: its scaling. -/
namespace Go.Proofs.YtblpcpkkjbkakaaGreatDoor
open Go Go.RowKit
set_option linter.unusedVariables false
set_option linter.unusedSimpArgs false

theorem prescale_any (pb q : Nat) (e lp hi lo x0 x1 x2 : Int) (w : World) (hq : q < 696) (he : -100000 ≤ e) (he2 : e ≤ 100000) (hl : -100000 ≤ lp) (hl2 : lp ≤ 100000) (hb : w.heap[pb]? = some (.cells #[.int .u64 x0, .int .u64 x1, .int .i64 x2] 236 (0, 0)))
    (hhi : w.cell? ⟨14, q * 2, none⟩ = some (.int .u64 hi)) (hlo : w.cell? ⟨14, q * 2 + 1, none⟩ = some (.int .u64 lo)) (hne : pb ≠ 14) :
    Calls Tryz.prog 154 #[.pointer (some ⟨pb, 0, none⟩), .int .i64 e, .int .i64 ((q : Int) - 348), .int .i64 lp] w (fun en w' => en = .returned (.tuple #[]) ∧ w' = ((w.setCell ⟨pb, 0, none⟩ (.int .u64 hi)).setCell ⟨pb, 1, none⟩ (.int .u64 lo)).setCell ⟨pb, 2, none⟩ (.int .i64 (-(e + lp + 3)))) := by
  have c0 : w.cell? ⟨pb, 0, none⟩ = some (.int .u64 x0) := by rw [Lib.cell_of_heap hb]; rfl
  have c1 : w.cell? ⟨pb, 1, none⟩ = some (.int .u64 x1) := by rw [Lib.cell_of_heap hb]; rfl
  have c2 : w.cell? ⟨pb, 2, none⟩ = some (.int .i64 x2) := by rw [Lib.cell_of_heap hb]; rfl
  have f0 := Lib.frozen_of_heap hb 0
  have f1 := Lib.frozen_of_heap hb 1
  have f2 := Lib.frozen_of_heap hb 2
  have HB := Lib.hid hb; clear hb
  go_enter Tryz.func154, Tryz.ntmps154
  go_wp2_with fail
  go_end0
  exact ⟨rfl, rfl⟩

def b2i (b : Bool) : Int := if b then 1 else 0
theorem bool2_u64 (b : Bool) (w : World) : Calls Tryz.prog 133 #[.bool b] w (fun e w' => e = .returned (.int .u64 (b2i b)) ∧ w = w') := by
  go_enter Tryz.func133, Tryz.ntmps133
  cases b with
  | false => go_wp2_with fail; go_ret; exact ⟨rfl, rfl⟩
  | true => go_wp2_with fail; go_ret; exact ⟨rfl, rfl⟩
theorem bool2_int (b : Bool) (w : World) : Calls Tryz.prog 156 #[.bool b] w (fun e w' => e = .returned (.int .i64 (b2i b)) ∧ w = w') := by
  go_enter Tryz.func156, Tryz.ntmps156
  cases b with
  | false => go_wp2_with fail; go_ret; exact ⟨rfl, rfl⟩
  | true => go_wp2_with fail; go_ret; exact ⟨rfl, rfl⟩

/-- What the scaling gives. -/
def uscF (x hi lo : Nat) (s : Int) : Int :=
  if IntKind.u64.wrap (((x * hi / 18446744073709551616 : Nat) : Int) / 2 ^ s.toNat * 2 ^ s.toNat) != ((x * hi / 18446744073709551616 : Nat) : Int) then
    bits BinOp.or IntKind.u64 (((x * hi / 18446744073709551616 : Nat) : Int) / 2 ^ s.toNat) 1
  else
    bits BinOp.or IntKind.u64 (IntKind.u64.wrap (((x * hi / 18446744073709551616 : Nat) : Int) - b2i (decide (((x * hi % 18446744073709551616 : Nat) : Int) < ((x * lo / 18446744073709551616 : Nat) : Int)))) / 2 ^ s.toNat)
      (b2i (decide (1 < IntKind.u64.wrap (((x * hi % 18446744073709551616 : Nat) : Int) - ((x * lo / 18446744073709551616 : Nat) : Int)))))

set_option maxRecDepth 100000 in
set_option maxHeartbeats 1000000 in
theorem uscale_any (pb x hi lo : Nat) (s : Int) (w : World) (hx : x < 18446744073709551616) (hh : hi < 18446744073709551616) (hl : lo < 18446744073709551616) (hs0 : 0 ≤ s) (hs : s < 64)
    (c0 : w.cell? ⟨pb, 0, none⟩ = some (.int .u64 hi)) (c1 : w.cell? ⟨pb, 1, none⟩ = some (.int .u64 lo)) (c2 : w.cell? ⟨pb, 2, none⟩ = some (.int .i64 s)) :
    Calls Tryz.prog 155 #[.int .u64 x, .pointer (some ⟨pb, 0, none⟩)] w (fun e w' => e = .returned (.int .u64 (uscF x hi lo s)) ∧ ∃ n, w' = w.drewN n) := by
  have hand : bits BinOp.and IntKind.i64 s 63 = s := by
    have h : ∀ k : Fin 64, bits BinOp.and IntKind.i64 (k.val : Int) 63 = (k.val : Int) := by decide +kernel
    have := h ⟨s.toNat, by omega⟩
    rw [show (((⟨s.toNat, by omega⟩ : Fin 64).val : Nat) : Int) = s by show ((s.toNat : Nat) : Int) = s; omega] at this
    exact this
  obtain ⟨Hn, hHn⟩ : ∃ n, n = x * hi / 18446744073709551616 := ⟨_, rfl⟩
  obtain ⟨Mn, hMn⟩ : ∃ n, n = x * hi % 18446744073709551616 := ⟨_, rfl⟩
  obtain ⟨Ln, hLn⟩ : ∃ n, n = x * lo / 18446744073709551616 := ⟨_, rfl⟩
  have hHl : Hn < 18446744073709551616 := by
    rw [hHn]; apply Nat.div_lt_of_lt_mul
    exact Nat.mul_lt_mul'' hx hh
  have hMl : Mn < 18446744073709551616 := by rw [hMn]; exact Nat.mod_lt _ (by decide)
  have hLl : Ln < 18446744073709551616 := by
    rw [hLn]; apply Nat.div_lt_of_lt_mul
    exact Nat.mul_lt_mul'' hx hl
  unfold uscF
  rw [← hHn, ← hMn, ← hLn]
  have h1 := Tryz.bits_Mul64 x hi hx hh
  have h2 := Tryz.bits_Mul64 x lo hx hl
  rw [← hHn, ← hMn] at h1
  rw [← hLn] at h2
  obtain ⟨L2, hL2⟩ : ∃ n, n = x * lo % 18446744073709551616 := ⟨_, rfl⟩
  rw [← hL2] at h2
  obtain ⟨HI, hHI⟩ : ∃ I : Int, I = (Hn : Int) := ⟨_, rfl⟩
  obtain ⟨MI, hMI⟩ : ∃ I : Int, I = (Mn : Int) := ⟨_, rfl⟩
  obtain ⟨LI, hLI⟩ : ∃ I : Int, I = (Ln : Int) := ⟨_, rfl⟩
  obtain ⟨XI, hXI⟩ : ∃ I : Int, I = (x : Int) := ⟨_, rfl⟩
  rw [← hHI, ← hMI, ← hLI, ← hXI]
  rw [← hHI, ← hMI, ← hXI] at h1
  rw [← hLI, ← hXI] at h2
  obtain ⟨T, hT⟩ : ∃ T, T = HI / 2 ^ s.toNat := ⟨_, rfl⟩
  obtain ⟨U, hU⟩ : ∃ U, U = IntKind.u64.wrap (T * 2 ^ s.toNat) := ⟨_, rfl⟩
  rw [← hT, ← hU]
  have H1 := Lib.hid h1; clear h1
  have H2 := Lib.hid h2; clear h2
  have tT := hT.symm
  have tU := hU.symm
  clear hT hU hL2 hHn hMn hLn
  have HX := Lib.hid (And.intro hHI (And.intro hMI (And.intro hLI hXI))); clear hHI hMI hLI hXI
  by_cases hc : (U != HI) = true
  · rw [if_pos hc]
    go_enter Tryz.func155, Tryz.ntmps155
    go_wp2_with (go_at_call 166; refine (H1.out _).mono ?_; rintro e w' ⟨rfl, rfl⟩)
    go_ret
    exact ⟨rfl, 0, rfl⟩
  · rw [if_neg hc]
    have hcf : (U != HI) = false := by simpa using hc
    obtain ⟨D, hD⟩ : ∃ D, b2i (decide (MI < LI)) = D := ⟨_, rfl⟩
    rw [hD]
    obtain ⟨K, hK⟩ : ∃ K, IntKind.u64.wrap (HI - D) = K := ⟨_, rfl⟩
    rw [hK]
    obtain ⟨T2, hT2⟩ : ∃ T2, K / 2 ^ s.toNat = T2 := ⟨_, rfl⟩
    rw [hT2]
    obtain ⟨V, hV⟩ : ∃ V, IntKind.u64.wrap (MI - LI) = V := ⟨_, rfl⟩
    rw [hV]
    obtain ⟨E2, hE2⟩ : ∃ E, b2i (decide (1 < V)) = E := ⟨_, rfl⟩
    rw [hE2]
    clear hc
    have HD := Lib.hid hD
    have HE := Lib.hid hE2
    go_enter Tryz.func155, Tryz.ntmps155
    go_upto_region 5 with (go_at_call 166; refine (H1.out _).mono ?_; rintro e w' ⟨rfl, rfl⟩)
    go_upto_region 6 with (go_at_call 166; refine (H2.out _).mono ?_; rintro e w' ⟨rfl, rfl⟩)
    go_upto_region 7 with (go_at_call 133; refine (bool2_u64 _ _).mono ?_; rintro e w' ⟨rfl, rfl⟩)
    go_quiet (first | (refine (bool2_u64 _ _).mono ?_; rintro e w' ⟨rfl, rfl⟩; exact ⟨rfl, _, rfl⟩))
    go_wp2_with fail
    go_ret
    exact ⟨rfl, nq, rfl⟩

theorem div_pow_lt (n k : Nat) (hn : n < 18446744073709551616) (hk : 8 ≤ k) : n / 2 ^ k < 72057594037927936 := by
  have h1 : n / 2 ^ k ≤ n / 2 ^ 8 := Nat.div_le_div_left (Nat.pow_le_pow_right (by decide) hk) (by decide)
  have h2 : n / 2 ^ 8 < 72057594037927936 := by omega
  omega
theorem int_div_pow (n k : Nat) : ((n : Int) / 2 ^ k) = ((n / 2 ^ k : Nat) : Int) := by
  rw [Int.natCast_ediv]; simp
theorem uscF_lt (x hi lo : Nat) (s : Int) (hx : x < 18446744073709551616) (hh : hi < 18446744073709551616) (hs : 8 ≤ s) : ∃ n : Nat, uscF x hi lo s = n ∧ n < 72057594037927936 := by
  have hH : x * hi / 18446744073709551616 < 18446744073709551616 := Nat.div_lt_of_lt_mul (Nat.mul_lt_mul'' hx hh)
  have hk : 8 ≤ s.toNat := by omega
  unfold uscF
  split
  · rw [int_div_pow]
    have h1 := div_pow_lt _ _ hH hk
    refine ⟨_, bits_or_u64_nat _ 1 (by omega) (by decide), ?_⟩
    exact Nat.or_lt_two_pow (n := 56) h1 (by decide)
  · obtain ⟨K, hK⟩ : ∃ K, IntKind.u64.wrap (((x * hi / 18446744073709551616 : Nat) : Int) - b2i (decide (((x * hi % 18446744073709551616 : Nat) : Int) < ((x * lo / 18446744073709551616 : Nat) : Int)))) = K := ⟨_, rfl⟩
    obtain ⟨E, hE⟩ : ∃ E : Nat, b2i (decide (1 < IntKind.u64.wrap (((x * hi % 18446744073709551616 : Nat) : Int) - ((x * lo / 18446744073709551616 : Nat) : Int)))) = (E : Int) ∧ E < 2 := by
      unfold b2i; split
      · exact ⟨1, rfl, by decide⟩
      · exact ⟨0, rfl, by decide⟩
    rw [hK, hE.1]
    have hK2 : 0 ≤ K ∧ K < 18446744073709551616 := by rw [← hK, IntKind.wrap_u64]; omega
    obtain ⟨Kn, rfl⟩ : ∃ n : Nat, K = n := ⟨K.toNat, by omega⟩
    rw [int_div_pow]
    have h1 := div_pow_lt Kn _ (by omega) hk
    refine ⟨_, bits_or_u64_nat _ E (by omega) (by omega), ?_⟩
    exact Nat.or_lt_two_pow (n := 56) h1 (by omega)

set_option maxRecDepth 100000 in
theorem log2Pow10_any (p : Int) (w : World) (h : -100000 ≤ p) (h2 : p ≤ 100000) : Calls Tryz.prog 153 #[.int .i64 p] w (fun e w' => e = .returned (.int .i64 (p * 108853 / 32768)) ∧ w = w') := by
  go_enter Tryz.func153, Tryz.ntmps153
  go_wp2_with fail
  go_ret
  exact ⟨rfl, rfl⟩
theorem unmin_any (w : World) : Calls Tryz.prog 157 #[.int .u64 9007199254740992] w (fun e w' => e = .returned (.int .u64 36028797018963966) ∧ w = w') := by
  go_enter Tryz.func157, Tryz.ntmps157
  go_wp2_with fail
  go_ret
  exact ⟨rfl, rfl⟩
def rnd (u : Int) : Int := (u + 1 + bits BinOp.and IntKind.u64 (u / 4) 1) / 4
theorem and1 (u : Int) (h0 : 0 ≤ u) (h1 : u ≤ 18446744073709551615) : bits BinOp.and IntKind.u64 u 1 = u % 2 := and_one_u64 u h0 h1
theorem round_any (u : Int) (w : World) (h : 0 ≤ u) (h2 : u < 72057594037927936) : Calls Tryz.prog 159 #[.int .u64 u] w (fun e w' => e = .returned (.int .u64 ((u + 1 + u / 4 % 2) / 4)) ∧ w = w') := by
  have ha := and1 (u / 4) (by omega) (by omega)
  go_enter Tryz.func159, Tryz.ntmps159
  go_wp2_with fail
  go_ret
  exact ⟨rfl, rfl⟩
end Go.Proofs.YtblpcpkkjbkakaaGreatDoor
