/- Lemmas towards the seat's laws: 1 texts joined. -/
import Derived.Test.YtblpcpkkjbkakaaGreatDoorY10
/- One reading of the scanner: what the call leaves. -/
namespace Go.Proofs.YtblpcpkkjbkakaaGreatDoor
open Go Go.RowKit
set_option linter.unusedVariables false
set_option linter.unusedSimpArgs false

/-- The place between the token's saving and the refill. -/
def Mid (s : ByteArray) (rb B b en off : Nat) (R : Nat → Option Value) (T : Option Nat) (w wx : World) : Prop :=
  ∃ R' tb', IsB B b R' tb' wx ∧ (∀ k, k ≠ 1036 → R' k = R k) ∧ Tk s R' tb' 0 (off + en) T ∧ Fr B b rb w wx ∧ wx.heap[rb]? = w.heap[rb]?

/-- n bytes from place q of the text on stand at the buffer's head. -/
def Red (s : ByteArray) (rb B b q n : Nat) (tb : List UInt8) (R : Nat → Option Value) (w wx : World) : Prop :=
  ∃ R3, IsB B b R3 tb wx ∧ (∀ j, j < n → ∃ h : q + j < s.size, R3 (1 + j) = some (.int .u8 (s[q + j].toNat))) ∧ (∀ k, k = 0 ∨ 1 + n ≤ k → R3 k = R k) ∧ Fr B b rb w wx ∧
    ∃ p : Int, wx.heap[rb]? = some (.cells #[.string s, .int .i64 (q + n : Nat), .int .i64 p] 154 (0, 0))

def RedEnd (s : ByteArray) (q n : Nat) (v : Value) (wx : World) : Prop :=
  (q < s.size ∧ 0 < n ∧ n ≤ 1024 ∧ q + n ≤ s.size ∧ v = .nilIface) ∨ (q = s.size ∧ n = 0 ∧ ∃ ea, v = .iface 215 (.pointer (some ea)) ∧ wx.cell? ⟨4, 0, none⟩ = some v)

def RedPost (s : ByteArray) (rb B b q : Nat) (tb : List UInt8) (R : Nat → Option Value) (w : World) (e : Ending) (wx : World) : Prop :=
  ∃ n : Nat, ∃ v, e = .returned (.tuple #[.int .i64 n, v]) ∧ RedEnd s q n v wx ∧ Red s rb B b q n tb R w wx

theorem read_step (s : ByteArray) (rb B b q : Nat) (p : Int) (tb : List UInt8) (R : Nat → Option Value) (w : World) (hI : IsB B b R tb w) (hs : s.size ≤ 2000) (hq : q ≤ s.size)
    (hbuf : ∀ i, i < 1025 → (R (1 + i)).isSome = true) (hr : w.heap[rb]? = some (.cells #[.string s, .int .i64 (q : Nat), .int .i64 p] 154 (0, 0))) (hrb : B ≤ rb) (hne : rb ≠ b) (hG : Gl w) (hB9 : 9 ≤ B) :
    Calls Tryz.prog 204 #[.pointer (some ⟨rb, 0, none⟩), .slice (some ⟨b, 1, none⟩) 1024 1025] w (RedPost s rb B b q tb R w) := by
  have c0 : w.cell? ⟨rb, 0, none⟩ = some (.string s) := by rw [Lib.cell_of_heap hr]; rfl
  have c1 : w.cell? ⟨rb, 1, none⟩ = some (.int .i64 q) := by rw [Lib.cell_of_heap hr]; rfl
  have c2 : w.cell? ⟨rb, 2, none⟩ = some (.int .i64 p) := by rw [Lib.cell_of_heap hr]; rfl
  have hB := hI.1
  by_cases hm : q < s.size
  · obtain ⟨n, hn⟩ : ∃ n, n = Nat.min (s.size - q) 1024 := ⟨_, rfl⟩
    have hn1 : n ≤ 1024 := by rw [hn]; exact Nat.min_le_right _ _
    have hn2 : n ≤ s.size - q := by rw [hn]; exact Nat.min_le_left _ _
    have hn0 : 0 < n := by rw [hn]; show 0 < min _ _; omega
    refine (read_more s rb b 1 1024 1025 q n p w hs (Nat.le_refl _) hne c0 c1 c2 (Lib.frozen_of_heap hr 1) (Lib.frozen_of_heap hr 2) hm hn (fun j hj => ?_) (fun j _ => hI.notFrozen _)).mono ?_
    · rw [hI.rest (1 + j) (by omega)]; exact hbuf j (by omega)
    · rintro e wx ⟨rfl, d1, d2, d3, rfl⟩
      refine ⟨n, _, rfl, .inl ⟨hm, hn0, hn1, by omega, rfl⟩, updL R 1 (srow s q n), ?_, ?_, ?_, ?_, -1, ?_⟩
      · have h1 : IsB B b R tb ((w.drewN d1).setCell ⟨rb, 2, none⟩ (.int .i64 (-1))) := (show IsB B b R tb (w.drewN d1) from hI.drewN d1).other (rb := rb) hr hne 2 _
        have h2 : IsB B b (updL R 1 (srow s q n)) tb ((((w.drewN d1).setCell ⟨rb, 2, none⟩ (.int .i64 (-1))).drewN d2).setCells b 1 (srow s q n)) :=
          (show IsB B b R tb (((w.drewN d1).setCell ⟨rb, 2, none⟩ (.int .i64 (-1))).drewN d2) from h1.drewN d2).setL (srow s q n) R 1 _ (by rw [srow_length s q n (by omega)]; omega) (fun j hj => by rw [srow_length s q n (by omega)] at hj; exact hbuf j (by omega))
        refine (show IsB B b (updL R 1 (srow s q n)) tb (((((w.drewN d1).setCell ⟨rb, 2, none⟩ (.int .i64 (-1))).drewN d2).setCells b 1 (srow s q n)).drewN d3) from h2.drewN d3).other (rb := rb) (c := #[.string s, .int .i64 (q : Nat), .int .i64 (-1)]) (fz := (0, 0)) ?_ hne 1 _
        show ((((w.drewN d1).setCell ⟨rb, 2, none⟩ (.int .i64 (-1))).drewN d2).setCells b 1 (srow s q n)).heap[rb]? = _
        rw [setCells_heap _ _ _ _ _ hne]
        exact Lib.heap_setCell_same (i := 2) (w := w.drewN d1) hr _
      · intro j hj
        obtain ⟨hh, h1⟩ := srow_get s q n j (by omega) hj
        exact ⟨hh, updL_in _ R 1 j _ h1⟩
      · intro k hk
        rw [updL_out _ _ _ _ (by rw [srow_length s q n (by omega)]; omega)]
      · exact (((((((Fr.refl B b rb w).drewN d1).setRb hrb 2 _).drewN d2).setL (srow s q n) 1 hB).drewN d3).setRb hrb 1 _)
      · have h1 : (((((w.drewN d1).setCell ⟨rb, 2, none⟩ (.int .i64 (-1))).drewN d2).setCells b 1 (srow s q n)).drewN d3).heap[rb]? = some (.cells #[.string s, .int .i64 (q : Nat), .int .i64 (-1)] 154 (0, 0)) := by
          show ((((w.drewN d1).setCell ⟨rb, 2, none⟩ (.int .i64 (-1))).drewN d2).setCells b 1 (srow s q n)).heap[rb]? = _
          rw [setCells_heap _ _ _ _ _ hne]
          exact Lib.heap_setCell_same (i := 2) (w := w.drewN d1) hr _
        exact Lib.heap_setCell_same (i := 1) h1 _
  · have hq2 : q = s.size := by omega
    obtain ⟨ea, he⟩ := hG.eof
    refine (read_end s rb 1024 1025 q (some ⟨b, 1, none⟩) _ w hs c0 c1 he (by omega)).mono ?_
    rintro e wx ⟨rfl, d1, d2, rfl⟩
    refine ⟨0, _, rfl, .inr ⟨hq2, rfl, ea, rfl, he⟩, R, (hI.drewN d1).drewN d2, fun j hj => absurd hj (by omega), fun k _ => rfl, ((Fr.refl B b rb w).drewN d1).drewN d2, p, hr⟩

end Go.Proofs.YtblpcpkkjbkakaaGreatDoor
