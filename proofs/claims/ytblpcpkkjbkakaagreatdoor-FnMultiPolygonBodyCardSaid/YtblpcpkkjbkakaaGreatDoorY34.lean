/- Lemmas towards the seat's laws: 1 texts joined. -/
import Derived.Test.YtblpcpkkjbkakaaGreatDoorY33
import Derived.Test.YtblpcpkkjbkakaaGreatDoorY04
import Derived.Lib.BufSteps
import Derived.Laws.BytesArg
import Derived.Laws.DeepStrings4
import Derived.OwnWalk
/- strconv.Quote on a text of plain printable bytes. -/
namespace Go.Proofs.YtblpcpkkjbkakaaGreatDoor
open Go Go.RowKit
set_option linter.unusedVariables false
set_option linter.unusedSimpArgs false

def PlainB (x : Nat) : Prop := 32 ≤ x ∧ x ≤ 126 ∧ x ≠ 34 ∧ x ≠ 92
def numsOf (s : ByteArray) : List Int := s.data.toList.map fun c => (c.toNat : Int)
def u8c (l : List Int) : List Value := l.map (Value.int .u8)
theorem byte5 : (Tryz.prog.info? 5).map (fun i => (i.zero, i.size, i.bytes)) = some (some (.int .u8 0), 1, 1) := by kernel_rfl

set_option maxHeartbeats 1000000 in
theorem esc_plain (B : Nat) (v : Value) (n : Nat) (xs : List Value) (r : Nat) (W0 w : World) (hb : Lib.OwnBuf B 5 v n xs W0 w) (hlen : n + 10 ≤ 140737488355328) (hr : PlainB r) :
    Calls Tryz.prog 211 #[v, .int .i32 r, .int .u8 34, .bool false, .bool false] w fun e w' => ∃ v', e = .returned v' ∧ Lib.OwnBuf B 5 v' (n + 1) (xs ++ [.int .u8 r]) W0 w' := by
  obtain ⟨h1, h2, h3, h4⟩ := hr
  have e1 : ((r : Int) == 34) = false := beq_false_of_ne (by omega)
  have e2 : ((r : Int) == 92) = false := beq_false_of_ne (by omega)
  have hp : Lib.isPrintLatin (r : Int) = true := by
    unfold Lib.isPrintLatin
    rw [decide_eq_true (by omega : (32 : Int) ≤ r), decide_eq_true (by omega : (r : Int) ≤ 126)]; rfl
  have hc := fun W => Tryz.strconv_IsPrint_latin (r : Int) W (by omega)
  rw [hp] at hc
  have HC := Lib.hid hc; clear hc hp
  have ha := Tryz.utf8_AppendRune_row B v n xs (r : Int) (by omega) (by omega) w hb.1 (by omega) hb.2.2
  have hrc : Lib.runeCells (r : Int) = [.int .u8 r] := by unfold Lib.runeCells; rw [Lib.encodeRuneZ_one (by omega) (by omega)]; rfl
  rw [hrc] at ha
  have HA := Lib.hid ha; clear ha hrc
  have HB := Lib.hid hb; clear hb
  go_enter Tryz.func211, Tryz.ntmps211
  go_wp2_with (first | (go_at_call 213; refine (HC.out _).mono ?_; rintro e w' ⟨rfl, rfl⟩) | (go_at_call 215; refine HA.out.mono ?_; rintro e w' ⟨v', rfl, k1, o, k2⟩))
  go_ret
  exact ⟨v', rfl, (HB.out.alloc o).grown k1 k2⟩

theorem size_drop (s : ByteArray) (k : Nat) (h : k ≤ s.size) : (s.extract k s.size).size = s.size - k := by
  rw [ByteArray.size_extract]; omega

set_option maxRecDepth 1000000 in
set_option maxHeartbeats 4000000 in
theorem quoted_plain (B : Nat) (a : Option Addr) (c : Nat) (s : ByteArray) (W0 w : World) (hb : Lib.OwnBuf B 5 (.slice a 0 c) 0 [] W0 w) (hroom : s.size ≤ c) (hc : c ≤ 9223372036854775807) (hlen : s.size ≤ 1000000)
    (hp : ∀ x ∈ s.data.toList, PlainB x.toNat) :
    Calls Tryz.prog 209 #[.slice a 0 c, .string s, .int .u8 34, .bool false, .bool false] w fun e w' => ∃ v', e = .returned v' ∧ Lib.OwnBuf B 5 v' (s.size + 2) (u8c ([34] ++ numsOf s ++ [34])) W0 w' := by
  obtain ⟨i0, hi, hz0, hz1, hz2⟩ := info_parts byte5
  have HP := Lib.hid hp; clear hp
  obtain ⟨LL, hLL⟩ : ∃ L, L = u8c ([34] ++ numsOf s ++ [34]) := ⟨_, rfl⟩
  rw [← hLL]
  have HLL := Lib.hid hLL; clear hLL
  go_enter Tryz.func209, Tryz.ntmps209
  go_wp2_with (at_builtin; refine Lib.wpList_append_byte rfl _ _ 85 rfl B 5 i0 Tryz.underlying85 hi hz0 hz1 hz2 _ _ _ rfl W0 _ _ (by assumption) rfl (by omega) ?_; intro _ _ hb)
  have Hb := Lib.hid hb
  clear hb
  go_loopw [0, 1, 12, 13] (fun vb vs _ _ wr => ∃ (rest : ByteArray) (k : Nat), vs = .string rest ∧ k + rest.size = s.size ∧ RowKit.Hid (rest.data.toList = s.data.toList.drop k) ∧ RowKit.Hid (Lib.OwnBuf B 5 vb (1 + k) (u8c ([34] ++ (numsOf s).take k)) W0 wr))
    (fun _ vs _ _ _ => match vs with | .string r => r.size | _ => 0)
  case atStart => exact ⟨s, 0, rfl, by omega, Lib.hid rfl, Lib.hid (by simpa [u8c] using Hb.out)⟩
  case round =>
    obtain ⟨rest, k, rfl, hk, hr, hbr⟩ := hrel
    by_cases h0 : 0 < rest.size
    · obtain ⟨x, hx⟩ : ∃ x, rest.data.toList[0]? = some x := ⟨rest[0], get_at rest 0 h0⟩
      have hxs : s.data.toList[k]? = some x := by rw [hr.out, List.getElem?_drop] at hx; exact hx
      have hpl := HP.out x (List.mem_of_getElem? hxs)
      have hD := fun W => Tryz.utf8_DecodeRuneInString_ascii rest x W hx (by have := hpl.2.1; omega)
      have hE := esc_plain B _ _ _ x.toNat W0 wr hbr.out (by omega) hpl
      have hn : (numsOf s).take (k + 1) = (numsOf s).take k ++ [(x.toNat : Int)] := by
        rw [List.take_add_one]
        unfold numsOf
        rw [List.getElem?_map, hxs]; rfl
      have hv : u8c ([34] ++ (numsOf s).take k) ++ [.int .u8 (x.toNat : Int)] = u8c ([34] ++ (numsOf s).take (k + 1)) := by rw [hn]; simp [u8c]
      rw [hv] at hE
      have hre : (rest.extract 1 rest.size).data.toList = s.data.toList.drop (k + 1) := by
        rw [extract_drop, hr.out, List.drop_drop]
      have hse := size_drop rest 1 (by omega)
      obtain ⟨X, hX⟩ : ∃ X, X = x.toNat := ⟨_, rfl⟩
      rw [← hX] at hD hE
      have e1 : ((X : Int) == 65533) = false := beq_false_of_ne (by have := hpl.2.1; omega)
      have HD := Lib.hid hD; clear hD
      have HE := Lib.hid hE; clear hE
      have HX := Lib.hid (And.intro hre hse)
      clear hx hxs hpl hn hv hre hX
      go_wp2_with (first | (go_at_call 210; refine (HD.out _).mono ?_; rintro e w' ⟨rfl, rfl⟩) | (go_at_call 211; refine HE.out.mono ?_; rintro e w' ⟨v', rfl, k1⟩))
      go_roundw
      case rel => exact ⟨_, k + 1, rfl, by omega, Lib.hid HX.out.1, Lib.hid (by rw [show 1 + (k + 1) = 1 + k + 1 by omega]; assumption)⟩
      case measure => simp only []; omega
    · have hks : k = s.size := by omega
      have hbx := hbr.out
      rw [hks, show (numsOf s).take s.size = numsOf s by
        apply List.take_of_length_le
        unfold numsOf
        rw [List.length_map, ← Lib.size_eq]; exact Nat.le_refl _] at hbx
      have hsz : (rest.size : Int) = 0 := by omega
      clear hbr hks
      go_wp2_with (at_builtin; refine Lib.wpList_append_byte rfl _ _ 85 rfl B 5 i0 Tryz.underlying85 hi hz0 hz1 hz2 _ _ _ rfl W0 _ _ (by assumption) rfl (by omega) ?_; intro _ _ hb)
      go_ret
      refine ⟨_, rfl, ?_⟩
      rw [show s.size + 2 = 1 + s.size + 1 by omega, HLL.out, show u8c ([34] ++ numsOf s ++ [34]) = u8c ([34] ++ numsOf s) ++ [.int .u8 34] by simp [u8c]]
      assumption

/-- What is at the head of a row of bytes. -/
theorem row_cells {B : Nat} {v : Value} {n : Nat} {l : List Int} {W0 w : World} (h : Lib.OwnBuf B 5 v n (u8c l) W0 w) (hl : 0 < n) (hn : l.length = n) :
    ∃ g cap, v = .slice (some ⟨g, 0, none⟩) n cap ∧ ∀ i, i < n → w.cell? ⟨g, 0 + i, none⟩ = some (.int .u8 (l.getD i 0)) := by
  rcases h.1.2 with ⟨_, h0⟩ | ⟨g, cap, cur, fz, rfl, _⟩
  · omega
  · refine ⟨g, cap, by simp, fun i hi => ?_⟩
    have := h.1.cells (g := g) (by simp [Value.ownBlock]) i (.int .u8 (l.getD i 0)) (by simp [u8c, List.getD, List.getElem?_eq_getElem (show i < l.length by omega)])
    by_cases hi0 : i = 0 <;> simpa [Addr.add, hi0] using this

set_option maxHeartbeats 4000000 in
set_option maxRecDepth 1000000 in
theorem quoteWith_plain (s : ByteArray) (w : World) (hlen : s.size ≤ 1000000) (hp : ∀ x ∈ s.data.toList, PlainB x.toNat) :
    Calls Tryz.prog 208 #[.string s, .int .u8 34, .bool false, .bool false] w fun e w' => e = .returned (.string (strOfNums ([34] ++ numsOf s ++ [34]))) ∧ Below w.heap.size w w' := by
  obtain ⟨i0, hi, hz0, hz1, hz2⟩ := info_parts byte5
  obtain ⟨c, hc⟩ : ∃ c, c = 3 * s.size / 2 := ⟨_, rfl⟩
  have hcI : 3 * (s.size : Int) / 2 = (c : Int) := by omega
  have hc1 : s.size ≤ c := by omega
  have hc2 : c ≤ 140737488355328 := by omega
  have cQ := fun w1 (hb : Lib.OwnBuf w.heap.size 5 (.slice (some ⟨w.heap.size, 0, none⟩) 0 c) 0 [] w w1) => quoted_plain w.heap.size _ c s w w1 hb hc1 (by omega) hlen hp
  have Hc := Lib.hid hc
  have HQ := Lib.hid cQ
  clear hc hp cQ
  go_enter Tryz.func208, Tryz.ntmps208
  go_wp2_with (first
    | (at_make; refine wpList_make_own _ rfl _ _ 85 rfl w.heap.size 5 i0 (.int .u8 0) 1 Tryz.underlying85 hi hz0 hz1 _ _ _ c rfl rfl (by first | rfl | assumption) (by rw [hz2]; omega) (by unfold maxLen; omega) (Nat.le_refl _) ?_; intro w1 hown hg)
    | (go_at_call 209; refine (HQ.out _ ⟨World.ownsRowF_of hown, (Below.refl _ _).grown hg (Nat.le_refl _) (by intro k hk; cases hk), hg.size⟩).mono ?_; rintro e w2 ⟨v2, rfl, hb2⟩))
  obtain ⟨g, cap, rfl, hcells⟩ := row_cells hb2 (by omega) (by simp [numsOf])
  have hcv := run_convert_bytes_arg w2 85 5 Tryz.underlying85 Tryz.underlying5 g 0 _ cap ([34] ++ numsOf s ++ [34]) (by simp [numsOf]) hcells 9 Tryz.underlying9
  rw [hcv]
  obtain ⟨R, hR⟩ : ∃ R, R = strOfNums ([34] ++ numsOf s ++ [34]) := ⟨_, rfl⟩
  rw [← hR]
  go_wp2
  go_ret
  exact ⟨rfl, hb2.2.1⟩

def quoteP (s : ByteArray) : ByteArray := strOfNums ([34] ++ numsOf s ++ [34])
theorem quoteP_size (s : ByteArray) : (quoteP s).size = s.size + 2 := by
  unfold quoteP
  rw [strOfNums_size]
  simp [numsOf]
theorem quote_plain (s : ByteArray) (w : World) (hlen : s.size ≤ 1000000) (hp : ∀ x ∈ s.data.toList, PlainB x.toNat) :
    Calls Tryz.prog 207 #[.string s] w fun e w' => e = .returned (.string (quoteP s)) ∧ Below w.heap.size w w' := by
  have HQ := Lib.hid (quoteWith_plain s w hlen hp)
  clear hp
  go_enter Tryz.func207, Tryz.ntmps207
  go_wp2_with (go_at_call 208; refine HQ.out.mono ?_; rintro e w2 ⟨rfl, hb⟩)
  go_ret
  exact ⟨rfl, hb⟩

end Go.Proofs.YtblpcpkkjbkakaaGreatDoor
