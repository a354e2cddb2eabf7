/- Lemmas towards the seat's laws: 3 texts joined. -/
import Derived.Test.YtblpcpkkjbkakaaGreatDoorY30
import Derived.Test.YtblpcpkkjbkakaaGreatDoorY02
import Derived.Test.YtblpcpkkjbkakaaGreatDoorY24
/- The fast reading of floats. -/
namespace Go.Proofs.YtblpcpkkjbkakaaGreatDoor
open Go Go.RowKit
set_option linter.unusedVariables false
set_option linter.unusedSimpArgs false
theorem bitLenAux_le : ∀ f x : Nat, Lib.bitLenAux f x ≤ f
  | 0, x => Nat.le_refl _
  | f + 1, x => by
    have := bitLenAux_le f (x / 2)
    unfold Lib.bitLenAux
    split <;> omega
theorem bitLen_pos (x : Nat) (h : 0 < x) : 1 ≤ Lib.bitLen x := by
  unfold Lib.bitLen Lib.bitLenAux
  rw [if_neg (by omega)]; omega

/-- Behind the scaling: the number u, rounded and packed. -/
def pfU (u EI : Int) : Nat × Nat :=
  if 36028797018963966 ≤ u then packR ((bits BinOp.or IntKind.u64 (u / 2) (u % 2) + 1 + bits BinOp.or IntKind.u64 (u / 2) (u % 2) / 4 % 2) / 4).toNat (-(EI - 1))
  else packR ((bits BinOp.or IntKind.u64 u (u % 2) + 1 + bits BinOp.or IntKind.u64 u (u % 2) / 4 % 2) / 4).toNat (-EI)
def pfX (d q hi lo : Nat) : Nat × Nat :=
  let bl : Int := Lib.bitLen d
  let LP : Int := ((q : Int) - 348) * 108853 / 32768
  let EI : Int := min 1074 (53 - bl - LP)
  let S : Int := -(EI - (64 - bl) + LP + 3)
  if 64 ≤ S then (0, 0) else pfU (uscF (d * 2 ^ (64 - Lib.bitLen d) % 18446744073709551616) hi lo S) EI

def PfPost (neg : Bool) (r : Nat × Nat) (w : World) (e : Ending) (w' : World) : Prop :=
  e = .returned (.tuple #[.float .f64 (sg neg r.1), ev r.2]) ∧ Below w.heap.size w w'

set_option maxRecDepth 100000 in
set_option maxHeartbeats 1000000 in
theorem pf64_any (neg : Bool) (d q hi lo : Nat) (w : World) (hd0 : 0 < d) (hd : d < 18446744073709551616) (hq : 3 ≤ q) (hq2 : q ≤ 658) (hh : hi < 18446744073709551616) (hl : lo < 18446744073709551616)
    (hhi : w.cell? ⟨14, q * 2, none⟩ = some (.int .u64 hi)) (hlo : w.cell? ⟨14, q * 2 + 1, none⟩ = some (.int .u64 lo)) (hB : 15 ≤ w.heap.size) :
    Calls Tryz.prog 136 #[.int .u64 d, .int .i64 ((q : Int) - 348), .int .u64 (sgn neg)] w (PfPost neg (pfX d q hi lo) w) := by
  obtain ⟨p, hp⟩ : ∃ p : Int, p = (q : Int) - 348 := ⟨_, rfl⟩
  rw [← hp]
  obtain ⟨bl, hbl⟩ : ∃ bl, bl = Lib.bitLen d := ⟨_, rfl⟩
  have hb1 : 1 ≤ bl ∧ bl ≤ 64 := by rw [hbl]; exact ⟨bitLen_pos d hd0, bitLenAux_le 64 d⟩
  obtain ⟨LP, hLP⟩ : ∃ L, L = p * 108853 / 32768 := ⟨_, rfl⟩
  have hLP2 : -1200 ≤ LP ∧ LP ≤ 1200 := by omega
  have h1 := fun W => (Tryz.bits_Len64 (d : Int) W (by omega) (by omega)).mono (R' := fun e w' => e = .returned (.int .i64 (Lib.bitLen (d : Int).toNat)) ∧ W = w') (fun e w' (h : _ ∧ _) => ⟨h.1, h.2.symm⟩)
  rw [Int.toNat_natCast, ← hbl] at h1
  have h2 := fun W => log2Pow10_any p W (by omega) (by omega)
  rw [← hLP] at h2
  have H1 := Lib.hid h1; clear h1
  have H2 := Lib.hid h2; clear h2
  obtain ⟨EI, hE⟩ : ∃ E : Int, min 1074 (53 - (bl : Int) - LP) = E := ⟨_, rfl⟩
  obtain ⟨b1, b2⟩ := hb1
  obtain ⟨l1, l2⟩ := hLP2
  have he1 : EI ≤ 1074 := by omega
  have he2 : EI ≤ 53 - bl - LP := by omega
  have he3 : -1300 ≤ EI := by omega
  obtain ⟨S, hS⟩ : ∃ S : Int, S = -(EI - (64 - (bl : Int)) + LP + 3) := ⟨_, rfl⟩
  have hS8 : 8 ≤ S := by omega
  have hS9 : S ≤ 5000 := by omega
  have h3 := fun (pb : Nat) (W : World) => prescale_any pb q (EI - (64 - (bl : Int))) LP hi lo 0 0 0 W (by omega) (by omega) (by omega) (by omega) (by omega)
  rw [← hp, ← hS] at h3
  have H3 := Lib.hid h3; clear h3
  have HX := Lib.hid (And.intro hbl (And.intro hLP (And.intro hp hS))); clear hbl hLP hp hS
  obtain ⟨pb, hpb⟩ : ∃ pb, pb = w.heap.size := ⟨_, rfl⟩
  have HPB := Lib.hid hpb
  have hpf : pfX d q hi lo = if 64 ≤ S then (0, 0) else pfU (uscF (d * 2 ^ (64 - bl) % 18446744073709551616) hi lo S) EI := by
    unfold pfX
    simp only [← HX.out.1, ← HX.out.2.2.1, ← HX.out.2.1, hE, ← HX.out.2.2.2]
  have HPF := Lib.hid hpf; clear hpf
  go_enter Tryz.func136, Tryz.ntmps136
  go_upto_region 2 with (go_at_call 152; refine (H1.out _).mono ?_; rintro e w' ⟨rfl, rfl⟩)
  go_upto_region 3 with (go_at_call 153; refine (H2.out _).mono ?_; rintro e w' ⟨rfl, rfl⟩)
  go_upto_region 5 with fail
  rw [← hpb]
  obtain ⟨W1, hW1⟩ : ∃ W1, W1 = w.alloc (Obj.cells #[Value.int IntKind.u64 0, Value.int IntKind.u64 0, Value.int IntKind.i64 0] 236) := ⟨_, rfl⟩
  rw [← hW1]
  have hne : pb ≠ 14 := by omega
  have hw1 : W1.heap[pb]? = some (.cells #[.int .u64 0, .int .u64 0, .int .i64 0] 236 (0, 0)) := by rw [hW1, hpb]; exact Go.heap_alloc_new _ _
  have hb1 : Below w.heap.size w W1 := by rw [hW1]; exact (Below.refl _ w).alloc (Nat.le_refl _) _
  have hhi1 := (hb1.cell (p := ⟨14, q * 2, none⟩) (by show 14 < w.heap.size; omega)).trans hhi
  have hlo1 := (hb1.cell (p := ⟨14, q * 2 + 1, none⟩) (by show 14 < w.heap.size; omega)).trans hlo
  clear hW1 hhi hlo
  have B1 := Lib.hid hb1; clear hb1
  have C3 := Lib.hid (H3.out pb W1 hw1 hhi1 hlo1 hne)
  clear hhi1 hlo1 H3 hpb
  go_upto_region 6 with (go_at_call 154; refine C3.out.mono ?_; rintro e w' ⟨rfl, rfl⟩)
  obtain ⟨W2, hW2⟩ : ∃ W2, W2 = ((W1.setCell ⟨pb, 0, none⟩ (.int .u64 hi)).setCell ⟨pb, 1, none⟩ (.int .u64 lo)).setCell ⟨pb, 2, none⟩ (.int .i64 S) := ⟨_, rfl⟩
  rw [← hW2]
  have hw2 : W2.heap[pb]? = some (.cells #[.int .u64 hi, .int .u64 lo, .int .i64 S] 236 (0, 0)) := by
    rw [hW2]
    exact Go.heap_setCell_same _ _ 2 _ _ _ (Go.heap_setCell_same _ _ 1 _ _ _ (Go.heap_setCell_same _ _ 0 _ _ _ hw1))
  have hle : w.heap.size ≤ pb := by have := HPB.out; omega
  have B2 := Lib.hid (show Below w.heap.size w W2 by rw [hW2]; exact ((B1.out.setCell (p := ⟨pb, 0, none⟩) hle _).setCell (p := ⟨pb, 1, none⟩) hle _).setCell (p := ⟨pb, 2, none⟩) hle _)
  clear hW2 hw1 C3 B1
  have c0 : W2.cell? ⟨pb, 0, none⟩ = some (.int .u64 hi) := by rw [Lib.cell_of_heap hw2]; rfl
  have c1 : W2.cell? ⟨pb, 1, none⟩ = some (.int .u64 lo) := by rw [Lib.cell_of_heap hw2]; rfl
  have c2 : W2.cell? ⟨pb, 2, none⟩ = some (.int .i64 S) := by rw [Lib.cell_of_heap hw2]; rfl
  clear hw2 HPB
  have h134 := call134
  by_cases h64 : 64 ≤ S
  · have ho : bits BinOp.or IntKind.u64 ((sgn neg : Nat) : Int) 0 = ((sg neg 0 : Nat) : Int) := by
      rw [← sg_or neg 0 (by decide)]; exact bits_or_u64_nat _ 0 (by unfold sgn SW; split <;> omega) (by decide)
    have hpf := HPF.out
    rw [if_pos h64] at hpf
    have HPF := Lib.hid hpf; clear hpf
    obtain ⟨Z, hZ⟩ : ∃ Z : Int, Z = ((sg neg 0 : Nat) : Int) := ⟨_, rfl⟩
    rw [← hZ] at ho
    have HZ := Lib.hid hZ; clear hZ
    go_wp2_with fail
    go_ret2
    refine ⟨?_, B2.out⟩
    rw [HPF.out]
    show Ending.returned (.tuple #[.float .f64 Z.toNat, .nilIface]) = _
    rw [HZ.out]; rfl
  · have hpf := HPF.out
    rw [if_neg h64] at hpf
    obtain ⟨xn, hxn⟩ : ∃ n, n = d * 2 ^ (64 - bl) % 18446744073709551616 := ⟨_, rfl⟩
    rw [← hxn] at hpf
    have hxl : xn < 18446744073709551616 := by rw [hxn]; exact Nat.mod_lt _ (by decide)
    have hsh : IntKind.u64.wrap ((d : Int) * 2 ^ (64 - bl)) = (xn : Int) := by
      rw [IntKind.wrap_u64, hxn, Int.natCast_emod, Int.natCast_mul, Int.natCast_pow]; rfl
    obtain ⟨u, hu, hul⟩ := uscF_lt xn hi lo S hxl hh hS8
    rw [hu] at hpf
    have hus := fun W a b c => uscale_any pb xn hi lo S W hxl hh hl (by omega) (by omega) a b c
    rw [hu] at hus
    have HUS := Lib.hid hus; clear hus
    have HPF := Lib.hid hpf; clear hpf
    clear hxn hu
    have ha1 := and1 (u : Int) (by omega) (by omega)
    go_upto_region 9 with (go_at_call 155; refine (HUS.out _ c0 c1 c2).mono ?_; rintro e w' ⟨rfl, n, rfl⟩)
    obtain ⟨W3, hW3⟩ : ∃ W3, W3 = W2.drewN n := ⟨_, rfl⟩
    rw [← hW3]
    have B3 := Lib.hid (show Below w.heap.size w W3 by rw [hW3]; exact below_drewN B2.out n)
    clear hW3 B2 c0 c1 c2 HUS hsh
    have hrn : ∀ (W : World) (U2 : Nat), U2 < 36028797018963968 → Calls Tryz.prog 159 #[.int .u64 U2] W (fun e w' => e = .returned (.int .u64 (((U2 + 1 + U2 / 4 % 2) / 4 : Nat) : Int)) ∧ W = w') := fun W U2 h => by
      have := round_any (U2 : Int) W (by omega) (by omega)
      have e : ((U2 : Int) + 1 + U2 / 4 % 2) / 4 = (((U2 + 1 + U2 / 4 % 2) / 4 : Nat) : Int) := by omega
      rw [e] at this
      exact this
    have HR := Lib.hid hrn; clear hrn
    by_cases hbig : (36028797018963966 : Int) ≤ (u : Int)
    · have hb : b2i (decide ((36028797018963966 : Int) ≤ (u : Int))) = 1 := by unfold b2i; rw [if_pos (by simpa using hbig)]
      have hpf := HPF.out
      unfold pfU at hpf
      rw [if_pos hbig] at hpf
      obtain ⟨U2, hU2⟩ : ∃ U2 : Nat, U2 = u / 2 ||| u % 2 := ⟨_, rfl⟩
      have ho : bits BinOp.or IntKind.u64 ((u : Int) / 2) ((u : Int) % 2) = (U2 : Int) := by
        rw [hU2, ← bits_or_u64_nat (u / 2) (u % 2) (by omega) (by omega)]; rfl
      have hU2l : U2 < 36028797018963968 := by rw [hU2]; exact Nat.or_lt_two_pow (n := 55) (by omega) (by omega)
      rw [ho] at hpf
      obtain ⟨r, hr⟩ : ∃ r, r = (U2 + 1 + U2 / 4 % 2) / 4 := ⟨_, rfl⟩
      have hrl : r ≤ 9007199254740992 := by omega
      have hrr : (((U2 : Int) + 1 + U2 / 4 % 2) / 4).toNat = r := by omega
      rw [hrr] at hpf
      have HP2 := Lib.hid hpf; clear hpf
      have hr2 := fun W => HR.out W U2 hU2l
      rw [← hr] at hr2
      have HR2 := Lib.hid hr2; clear hr2 hr hrr hU2
      have hor : bits BinOp.or IntKind.u64 ((sgn neg : Nat) : Int) (r : Int) = ((sg neg r : Nat) : Int) := by
        rw [← sg_or neg r (by unfold SW; omega)]; exact bits_or_u64_nat _ r (by unfold sgn SW; split <;> omega) (by omega)
      have hpk := fun W => pack_any neg r (-(EI - 1)) (by unfold SW; omega) (by omega) (by omega) W
      have HPK := Lib.hid hpk; clear hpk
      have hbt : b2i true = 1 := rfl
      go_upto_region 12 with (first | (go_at_call 157; refine (unmin_any _).mono ?_; rintro e w' ⟨rfl, rfl⟩) | (go_at_call 156; refine (bool2_int _ _).mono ?_; rintro e w' ⟨rfl, rfl⟩))
      go_wp2_with (go_at_call 159; refine (HR2.out _).mono ?_; rintro e w' ⟨rfl, rfl⟩)
      refine (HPK.out _).mono ?_
      rintro e w' ⟨rfl, rfl⟩
      go_wp2_with fail
      go_ret2
      refine ⟨?_, B3.out⟩
      rw [HP2.out]
      rfl
    · have hb : b2i (decide ((36028797018963966 : Int) ≤ (u : Int))) = 0 := by unfold b2i; rw [if_neg (by simpa using hbig)]
      have hpf := HPF.out
      unfold pfU at hpf
      rw [if_neg hbig] at hpf
      obtain ⟨U2, hU2⟩ : ∃ U2 : Nat, U2 = u ||| u % 2 := ⟨_, rfl⟩
      have ho : bits BinOp.or IntKind.u64 (u : Int) ((u : Int) % 2) = (U2 : Int) := by
        rw [hU2, ← bits_or_u64_nat u (u % 2) (by omega) (by omega)]; rfl
      have hU2l : U2 < 36028797018963968 := by rw [hU2]; exact Nat.or_lt_two_pow (n := 55) (by omega) (by omega)
      rw [ho] at hpf
      obtain ⟨r, hr⟩ : ∃ r, r = (U2 + 1 + U2 / 4 % 2) / 4 := ⟨_, rfl⟩
      have hrl : r ≤ 9007199254740992 := by omega
      have hrr : (((U2 : Int) + 1 + U2 / 4 % 2) / 4).toNat = r := by omega
      rw [hrr] at hpf
      have HP2 := Lib.hid hpf; clear hpf
      have hr2 := fun W => HR.out W U2 hU2l
      rw [← hr] at hr2
      have HR2 := Lib.hid hr2; clear hr2 hr hrr hU2
      have hor : bits BinOp.or IntKind.u64 ((sgn neg : Nat) : Int) (r : Int) = ((sg neg r : Nat) : Int) := by
        rw [← sg_or neg r (by unfold SW; omega)]; exact bits_or_u64_nat _ r (by unfold sgn SW; split <;> omega) (by omega)
      have hpk := fun W => pack_any neg r (-EI) (by unfold SW; omega) (by omega) (by omega) W
      have HPK := Lib.hid hpk; clear hpk
      have hbt : b2i false = 0 := rfl
      go_upto_region 12 with (first | (go_at_call 157; refine (unmin_any _).mono ?_; rintro e w' ⟨rfl, rfl⟩) | (go_at_call 156; refine (bool2_int _ _).mono ?_; rintro e w' ⟨rfl, rfl⟩))
      go_wp2_with (go_at_call 159; refine (HR2.out _).mono ?_; rintro e w' ⟨rfl, rfl⟩)
      refine (HPK.out _).mono ?_
      rintro e w' ⟨rfl, rfl⟩
      go_wp2_with fail
      go_ret2
      refine ⟨?_, B3.out⟩
      rw [HP2.out]
      rfl

end Go.Proofs.YtblpcpkkjbkakaaGreatDoor
/- The exact reading of small decimals. -/
namespace Go.Proofs.YtblpcpkkjbkakaaGreatDoor
open Go Go.RowKit
set_option linter.unusedVariables false
set_option linter.unusedSimpArgs false

theorem conv64 (n : Nat) : floatOfInt .f64 (n : Int) = Ieee.double.nearest false n 0 := by
  show FloatKind.nearest .f64 (n : Int) = _
  unfold FloatKind.nearest FloatKind.encode
  have : decide ((n : Int) < 0) = false := decide_eq_false (by omega)
  rw [this]; rfl
theorem neg64 (x : Nat) (h : x < SW) : Op.negFloat .f64 x = sg true x := by
  show x ^^^ 2 ^ 63 = SW + x
  rw [sw_pow] at *
  have h1 : 2 ^ 63 + x = 2 ^ 63 ||| x := by
    have := Nat.two_pow_add_eq_or_of_lt h 1
    simpa using this
  rw [h1]
  apply Nat.eq_of_testBit_eq
  intro i
  rw [Nat.testBit_xor, Nat.testBit_or, Nat.testBit_two_pow]
  by_cases hi : 63 = i
  · subst hi; rw [Nat.testBit_lt_two_pow h]; simp
  · simp [hi]
def mulw (x y : Nat) : Nat := (Ieee.double.mul x y).getD 0
def divw (x y : Nat) : Nat := (Ieee.double.div x y).getD 0
def bigw (x : Nat) : Bool := Ieee.double.order x 4831355200913801216 == some Ordering.gt
theorem mul_fine (x y k1 : Nat) (hx : x ≤ (1023 + k1) * 2 ^ 52) (hy : y ≤ (1023 + 74) * 2 ^ 52) (h1 : k1 ≤ 300) (neg : Bool) (W : World) :
    (binOp .mul 25 (.float .f64 (sg neg x)) (.float .f64 y)).run Tryz.prog W = .ok (.float .f64 (sg neg (mulw x y))) W ∧ mulw x y ≤ (1023 + (k1 + 76)) * 2 ^ 52 := by
  obtain ⟨r, h2, h3⟩ := mul_le x y k1 74 hx hy (by omega) (by omega)
  have e : mulw x y = r := by unfold mulw; rw [h2]; rfl
  refine ⟨run_float_arith W .mul 25 .f64 _ _ _ ?_, by rw [e]; omega⟩
  show Ieee.double.mul (sg neg x) y = _
  rw [mul_sg neg x y (by unfold SW; omega) (by unfold SW; omega), h2, e]; rfl
theorem div_fine (x i k1 : Nat) (hx : x ≤ (1023 + k1) * 2 ^ 52) (hi : i < 23) (h1 : k1 ≤ 300) (neg : Bool) (W : World) :
    (binOp .quo 25 (.float .f64 (sg neg x)) (.float .f64 (pw10 i))).run Tryz.prog W = .ok (.float .f64 (sg neg (divw x (pw10 i)))) W ∧ divw x (pw10 i) ≤ (1023 + (k1 + 1)) * 2 ^ 52 := by
  obtain ⟨n, j, hy, hn, hj⟩ := pw10_read i hi
  obtain ⟨r, h2, h3⟩ := div_le x (pw10 i) k1 n j hx (by omega) hy hn hj
  have e : divw x (pw10 i) = r := by unfold divw; rw [h2]; rfl
  have hl := pw10_le i hi
  refine ⟨run_float_arith W .quo 25 .f64 _ _ _ ?_, by rw [e]; exact h3⟩
  show Ieee.double.div (sg neg x) (pw10 i) = _
  rw [div_sg neg x _ (by unfold SW; omega) (by unfold SW; omega), h2, e]; rfl

structure GlF (g : Nat × Nat) (w : World) : Prop where
  info : w.cell? ⟨7, 0, none⟩ = some (.int .u64 52)
  tab : w.cell? ⟨13, 0, none⟩ = some (.slice (some ⟨g.1, g.2, none⟩) 23 23)
  pw : ∀ i, i < 23 → w.cell? ⟨g.1, g.2 + i, none⟩ = some (.float .f64 (pw10 i))

theorem big_two (neg : Bool) (x : Nat) (hx : x ≤ (1023 + 500) * 2 ^ 52) : ∃ b1 b2 : Bool, (FloatKind.f64.format.order (sg neg x) 4831355200913801216 == some Ordering.gt) = b1 ∧ (FloatKind.f64.format.order (sg neg x) 14054727237768577024 == some Ordering.lt) = b2 ∧ (b1 || b2) = bigw x :=
  ⟨_, _, rfl, rfl, big_sg neg x hx⟩
def exX (man : Nat) (e : Int) : Option Nat :=
  if man / 4503599627370496 ≠ 0 then none
  else if e = 0 then some (Ieee.double.nearest false man 0)
  else if 0 < e ∧ e ≤ 22 then
    if bigw (Ieee.double.nearest false man 0) then none else some (mulw (Ieee.double.nearest false man 0) (pw10 e.toNat))
  else if 22 < e ∧ e ≤ 37 then
    if bigw (mulw (Ieee.double.nearest false man 0) (pw10 (e - 22).toNat)) then none else some (mulw (mulw (Ieee.double.nearest false man 0) (pw10 (e - 22).toNat)) (pw10 22))
  else if e < 0 ∧ -22 ≤ e then some (divw (Ieee.double.nearest false man 0) (pw10 (-e).toNat))
  else none

def ExPost (neg : Bool) (r : Option Nat) (w : World) (e : Ending) (w' : World) : Prop :=
  (∃ v, e = .returned (.tuple #[.float .f64 v, .bool r.isSome]) ∧ ∀ x, r = some x → v = sg neg x) ∧ w = w'

set_option maxRecDepth 100000 in
set_option maxHeartbeats 1000000 in
theorem exact_any (neg : Bool) (man : Nat) (g : Nat × Nat) (e : Int) (w : World) (hm : man < 18446744073709551616) (he : -300000 ≤ e) (he2 : e ≤ 300000) (hG : GlF g w) :
    Calls Tryz.prog 135 #[.int .u64 man, .int .i64 e, .bool neg] w (ExPost neg (exX man e) w) := by
  have c7 := hG.info
  have c13 := hG.tab
  obtain ⟨F, hF⟩ : ∃ F, F = Ieee.double.nearest false man 0 := ⟨_, rfl⟩
  have hFl : F < SW := by rw [hF]; exact nearest_lt_sw man 0
  have hcv := conv64 man
  rw [← hF] at hcv
  have hng : ∀ W, (Op.unary .neg (.float .f64 F)).run Tryz.prog W = .ok (.float .f64 (sg true F)) W := fun W => by
    show Result.ok (Value.float .f64 (Op.negFloat .f64 F)) W = _
    rw [neg64 F hFl]
  obtain ⟨R, hR⟩ : ∃ R, R = exX man e := ⟨_, rfl⟩
  rw [← hR]
  have HRR := Lib.hid hR; clear hR
  have HG := Lib.hid hG; clear hG
  have HF := Lib.hid hF; clear hF
  by_cases hbig : man / 4503599627370496 = 0
  · have hmn : man < 4503599627370496 := by omega
    go_enter Tryz.func135, Tryz.ntmps135
    go_upto_if 15 with fail
    go_cut [6] (fun f wx => f = .float .f64 (sg neg F) ∧ wx = w)
    case first =>
     as_aux_lemma =>
      cases neg with
      | true =>
        go_wp2_with fail
        go_meet
        case rel => exact ⟨rfl, rfl⟩
      | false =>
        go_wp2_with fail
        go_meet
        case rel => exact ⟨rfl, rfl⟩
    case rest =>
      obtain ⟨rfl, rfl⟩ := hcut
      have hF52 : F ≤ (1023 + 52) * 2 ^ 52 := by rw [HF.out]; exact nearest_le man 52 0 52 (by omega) (by omega)
      have hex := HRR.out
      unfold exX at hex
      rw [if_neg (by omega), ← HF.out] at hex
      clear hcv hng hFl hmn hbig c7
      by_cases h0 : e = 0
      · rw [if_pos h0] at hex
        subst h0
        have HEX := Lib.hid hex; clear hex
        go_wp2_with fail
        go_ret2
        refine ⟨⟨_, by rw [HEX.out]; rfl, fun x hx => ?_⟩, rfl⟩
        rw [HEX.out] at hx; rw [← Option.some.inj hx]
      · rw [if_neg h0] at hex
        have e0 : (e == 0) = false := beq_false_of_ne h0
        by_cases h1 : 0 < e ∧ e ≤ 22
        · rw [if_pos h1] at hex
          obtain ⟨i, hi⟩ : ∃ i : Nat, e = i := ⟨e.toNat, by omega⟩
          subst hi
          obtain ⟨h1a, h1b⟩ := h1
          have hi23 : i < 23 := by omega
          have cp := HG.out.pw i hi23
          rw [Int.toNat_natCast] at hex
          have hmu := fun W => (mul_fine F (pw10 i) 52 hF52 (pw10_le i hi23) (by omega) neg W).1
          have hbnd := hi23
          obtain ⟨b1, b2, hb1, hb2, hb3⟩ := big_two neg (F) (by omega)
          have HEX := Lib.hid hex; clear hex
          have HB3 := Lib.hid hb3; clear hb3
          have HCL := Lib.hid hbnd; clear hbnd
          cases b1 with
          | true =>
            have hex := HEX.out
            rw [← HB3.out] at hex; simp only [Bool.true_or, Bool.or_true, if_true] at hex
            have HEX2 := Lib.hid hex; clear hex
            go_wp2_with fail
            go_ret2
            exact ⟨⟨_, by rw [HEX2.out]; rfl, fun x hx => by rw [HEX2.out] at hx; cases hx⟩, rfl⟩
          | false =>
            cases b2 with
            | true =>
              have hex := HEX.out
              rw [← HB3.out] at hex; simp only [Bool.true_or, Bool.or_true, if_true] at hex
              have HEX2 := Lib.hid hex; clear hex
              go_wp2_with fail
              go_ret2
              exact ⟨⟨_, by rw [HEX2.out]; rfl, fun x hx => by rw [HEX2.out] at hx; cases hx⟩, rfl⟩
            | false =>
              have hex := HEX.out
              rw [← HB3.out] at hex; simp only [Bool.or_false, Bool.false_eq_true, if_false] at hex
              have HEX2 := Lib.hid hex; clear hex
              go_wp2_with fail
              go_ret2
              exact ⟨⟨_, by rw [HEX2.out]; rfl, fun x hx => by rw [HEX2.out] at hx; rw [← Option.some.inj hx]⟩, rfl⟩
        · rw [if_neg h1] at hex
          by_cases h2 : 22 < e ∧ e ≤ 37
          · rw [if_pos h2] at hex
            obtain ⟨i, hi⟩ : ∃ i : Nat, e - 22 = i := ⟨(e - 22).toNat, by omega⟩
            obtain ⟨h2a, h2b⟩ := h2
            have hi23 : i < 23 := by omega
            have hi15 : i ≤ 15 := by omega
            have cp := HG.out.pw i hi23
            have cp22 := HG.out.pw 22 (by omega)
            rw [hi, Int.toNat_natCast] at hex
            have hmu := fun W => (mul_fine F (pw10 i) 52 hF52 (pw10_le i hi23) (by omega) neg W).1
            have hml := (mul_fine F (pw10 i) 52 hF52 (pw10_le i hi23) (by omega) neg wc).2
            obtain ⟨G, hG⟩ : ∃ G, G = mulw F (pw10 i) := ⟨_, rfl⟩
            rw [← hG] at hex hmu hml
            have hmu2 := fun W => (mul_fine G (pw10 22) 128 hml (pw10_le 22 (by omega)) (by omega) neg W).1
            have hbnd := hG; clear hG
            clear h1
            obtain ⟨b1, b2, hb1, hb2, hb3⟩ := big_two neg (G) (by omega)
            have HEX := Lib.hid hex; clear hex
            have HB3 := Lib.hid hb3; clear hb3
            have HCL := Lib.hid hbnd; clear hbnd
            cases b1 with
            | true =>
              have hex := HEX.out
              rw [← HB3.out] at hex; simp only [Bool.true_or, Bool.or_true, if_true] at hex
              have HEX2 := Lib.hid hex; clear hex
              go_wp2_with fail
              go_ret2
              exact ⟨⟨_, by rw [HEX2.out]; rfl, fun x hx => by rw [HEX2.out] at hx; cases hx⟩, rfl⟩
            | false =>
              cases b2 with
              | true =>
                have hex := HEX.out
                rw [← HB3.out] at hex; simp only [Bool.true_or, Bool.or_true, if_true] at hex
                have HEX2 := Lib.hid hex; clear hex
                go_wp2_with fail
                go_ret2
                exact ⟨⟨_, by rw [HEX2.out]; rfl, fun x hx => by rw [HEX2.out] at hx; cases hx⟩, rfl⟩
              | false =>
                have hex := HEX.out
                rw [← HB3.out] at hex; simp only [Bool.or_false, Bool.false_eq_true, if_false] at hex
                have HEX2 := Lib.hid hex; clear hex
                go_wp2_with fail
                go_ret2
                exact ⟨⟨_, by rw [HEX2.out]; rfl, fun x hx => by rw [HEX2.out] at hx; rw [← Option.some.inj hx]⟩, rfl⟩
          · rw [if_neg h2] at hex
            by_cases h3 : e < 0 ∧ -22 ≤ e
            · rw [if_pos h3] at hex
              obtain ⟨i, hi⟩ : ∃ i : Nat, -e = i := ⟨(-e).toNat, by omega⟩
              obtain ⟨h3a, h3b⟩ := h3
              have hi23 : i < 23 := by omega
              have cp := HG.out.pw i hi23
              rw [hi, Int.toNat_natCast] at hex
              have hdv := fun W => (div_fine F i 52 hF52 hi23 (by omega) neg W).1
              have HEX2 := Lib.hid hex; clear hex hF52
              have HE := Lib.hid (And.intro h1 h2); clear h1 h2
              go_wp2_with fail
              go_ret2
              exact ⟨⟨_, by rw [HEX2.out]; rfl, fun x hx => by rw [HEX2.out] at hx; rw [← Option.some.inj hx]⟩, rfl⟩
            · rw [if_neg h3] at hex
              have hor : e < -22 ∨ 37 < e := by omega
              have HEX2 := Lib.hid hex; clear hex hF52
              clear h1 h2 h3
              rcases hor with hor | hor
              · go_wp2_with fail
                go_ret2
                exact ⟨⟨_, by rw [HEX2.out]; rfl, fun x hx => by rw [HEX2.out] at hx; cases hx⟩, rfl⟩
              · go_wp2_with fail
                go_ret2
                exact ⟨⟨_, by rw [HEX2.out]; rfl, fun x hx => by rw [HEX2.out] at hx; cases hx⟩, rfl⟩
  · have hex := HRR.out
    unfold exX at hex
    rw [if_pos hbig] at hex
    have hb : ((man : Int) / 4503599627370496 != 0) = true := by
      have : ¬ ((man : Int) / 4503599627370496) = 0 := by omega
      simpa using this
    have HEX2 := Lib.hid hex; clear hex
    go_enter Tryz.func135, Tryz.ntmps135
    go_wp2_with fail
    go_ret2
    exact ⟨⟨_, by rw [HEX2.out]; rfl, fun x hx => by rw [HEX2.out] at hx; cases hx⟩, rfl⟩
end Go.Proofs.YtblpcpkkjbkakaaGreatDoor
/- What the fast readings give is finite. -/
namespace Go.Proofs.YtblpcpkkjbkakaaGreatDoor
open Go Go.RowKit
set_option linter.unusedVariables false
set_option linter.unusedSimpArgs false

def Fin64 (x : Nat) : Prop := x < 2047 * 2 ^ 52
def InfW : Nat := 9218868437227405312
/-- A number's outcome: in range and finite, or infinite with the sign of its range. -/
def Fine (r : Nat × Nat) : Prop := (r.2 = 0 ∧ Fin64 r.1) ∨ r = (InfW, 1)

theorem pack_fine (r : Nat) (e : Int) (hr : r ≤ 2 ^ 53) (he : -1075 ≤ e) : Fine (packR r e) := by
  unfold packR
  split
  · exact .inl ⟨rfl, by show r < _; omega⟩
  · rename_i h0
    split
    · exact .inr rfl
    · rename_i h9
      left
      refine ⟨rfl, ?_⟩
      have hne : r ≠ 2 ^ 53 := by
        intro h; apply h0; rw [h]; decide +kernel
      have hlt : r < 2 ^ 53 := by omega
      show (r &&& M52) ||| (1075 + e).toNat * 4503599627370496 < 2047 * 2 ^ 52
      rw [and_m52 r hlt]
      have hm : r % 2 ^ 52 < 2 ^ 52 := Nat.mod_lt _ (Nat.two_pow_pos 52)
      have h1 : (1075 + e).toNat * 4503599627370496 = (1075 + e).toNat <<< 52 := by rw [Nat.shiftLeft_eq]
      rw [h1, Nat.or_comm, ← Nat.shiftLeft_add_eq_or_of_lt hm, Nat.shiftLeft_eq]
      have h2 : (1075 + e).toNat ≤ 2046 := by omega
      have h3 : (1075 + e).toNat * 2 ^ 52 ≤ 2046 * 2 ^ 52 := Nat.mul_le_mul_right _ h2
      omega

theorem rnd_le (U2 : Nat) (h : U2 < 2 ^ 55) : (((U2 : Int) + 1 + U2 / 4 % 2) / 4).toNat ≤ 2 ^ 53 := by omega
theorem pfU_fine (u : Nat) (EI : Int) (hu : u < 72057594037927936) (he : EI ≤ 1074) : Fine (pfU u EI) := by
  unfold pfU
  split
  · have ho : bits BinOp.or IntKind.u64 ((u : Int) / 2) ((u : Int) % 2) = ((u / 2 ||| u % 2 : Nat) : Int) := by
      rw [← bits_or_u64_nat (u / 2) (u % 2) (by omega) (by omega)]; rfl
    rw [ho]
    exact pack_fine _ _ (rnd_le _ (Nat.or_lt_two_pow (by omega) (by omega))) (by omega)
  · rename_i hs
    have ho : bits BinOp.or IntKind.u64 (u : Int) ((u : Int) % 2) = ((u ||| u % 2 : Nat) : Int) := by
      rw [← bits_or_u64_nat u (u % 2) (by omega) (by omega)]; rfl
    rw [ho]
    exact pack_fine _ _ (rnd_le _ (Nat.or_lt_two_pow (by omega) (by omega))) (by omega)
theorem pfX_fine (d q hi lo : Nat) (hd0 : 0 < d) (hq : 3 ≤ q) (hq2 : q ≤ 658) (hh : hi < 18446744073709551616) : Fine (pfX d q hi lo) := by
  unfold pfX
  dsimp only
  split
  · exact .inl ⟨rfl, by show 0 < _; decide⟩
  · have hb1 := bitLen_pos d hd0
    have hb2 := bitLenAux_le 64 d
    obtain ⟨bl, hbl⟩ : ∃ bl : Nat, bl = Lib.bitLen d := ⟨_, rfl⟩
    have hb3 : bl ≤ 64 := by rw [hbl]; exact hb2
    rw [← hbl] at hb1 ⊢
    obtain ⟨LP, hLP⟩ : ∃ L : Int, L = ((q : Int) - 348) * 108853 / 32768 := ⟨_, rfl⟩
    rw [← hLP]
    obtain ⟨EI, hEI⟩ : ∃ E : Int, E = min 1074 (53 - (bl : Int) - LP) := ⟨_, rfl⟩
    rw [← hEI]
    obtain ⟨u, hu, hul⟩ := uscF_lt (d * 2 ^ (64 - bl) % 18446744073709551616) hi lo (-(EI - (64 - (bl : Int)) + LP + 3)) (Nat.mod_lt _ (by decide)) hh (by omega)
    rw [hu]
    exact pfU_fine u EI hul (by omega)

theorem exX_fine (man : Nat) (e : Int) (x : Nat) (h : exX man e = some x) : Fin64 x := by
  unfold exX at h
  split at h
  · cases h
  · rename_i h0
    have hm : man < 2 ^ 52 := by omega
    have hF : Ieee.double.nearest false man 0 ≤ (1023 + 52) * 2 ^ 52 := nearest_le man 52 0 52 hm (by omega)
    unfold Fin64
    split at h
    · rw [← Option.some.inj h]; omega
    · split at h
      · rename_i h1
        split at h
        · cases h
        · have := (mul_fine _ _ 52 hF (pw10_le e.toNat (by omega)) (by omega) false default).2
          rw [← Option.some.inj h]; omega
      · split at h
        · rename_i h2
          split at h
          · cases h
          · have h3 := (mul_fine _ _ 52 hF (pw10_le (e - 22).toNat (by omega)) (by omega) false default).2
            have h4 := (mul_fine _ _ 128 h3 (pw10_le 22 (by omega)) (by omega) false default).2
            rw [← Option.some.inj h]; omega
        · split at h
          · rename_i h5
            have := (div_fine _ (-e).toNat 52 hF (by omega) (by omega) false default).2
            rw [← Option.some.inj h]; omega
          · cases h

end Go.Proofs.YtblpcpkkjbkakaaGreatDoor
