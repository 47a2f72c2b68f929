/-
  The contract of decimal (8).
-/
import Derived.Test.Qxb6605159aModsDigits
import Derived.LoopTactic
import Derived.Deep.WholeRow
namespace Go.Proofs.Qxb6605159aMods
open Go.RowKit

def allDig (l : List UInt8) : Bool := l.all fun c => dig (c.toNat : Int)

def cellOf (c : UInt8) : Value := .int .u8 (c.toNat : Int)

theorem under28 : Trym.prog.underlying 28 = some (.array (Trym.prog.arrayLen 28) (Trym.prog.elem 28)) := by kernel_rfl
theorem len28 : Trym.prog.arrayLen 28 = 20 := by kernel_rfl
theorem size28 (W : World) : (sizeOf (Trym.prog.elem 28)).run Trym.prog W = .ok 1 W := by kernel_rfl

theorem slice_buf (W : World) (B k : Nat) (hk : k < 20) :
    (Instr.sliceAt 28 (.pointer (some ⟨B, 0, none⟩)) (some (.int .i64 (k : Int))) none none).run Trym.prog W = .ok (.slice (some ⟨B, k, none⟩) (20 - k) (20 - k)) W := by
  rw [run_sliceAt_array_l W 28 ⟨B, 0, none⟩ under28 .i64 k (by omega) (by rw [len28]; omega), size28, len28]
  simp only [Result.andThen, slicedAt, Int.toNat_natCast, Nat.mul_one]
  rw [if_neg (by omega)]
  simp [Addr.add]
  omega

theorem convert_buf (W : World) (B k : Nat) (C : Array Value) (l : List UInt8) (hl : l.length = 20 - k) (hblk : W.heap[B]? = some (.cells C 28 (0, 0))) (hdrop : C.toList.drop k = l.map cellOf) :
    (convert 26 9 (.slice (some ⟨B, k, none⟩) (20 - k) (20 - k))).run Trym.prog W = .ok (.string ⟨l.toArray⟩) W := by
  rw [← hl]
  refine run_convert_bytes_back W 26 9 5 ⟨B, k, none⟩ l.length l Trym.underlying26 Trym.underlying5 Trym.underlying9 ?_
  intro j hj
  have hadd : (⟨B, k, none⟩ : Addr).add j = ⟨B, k + j, none⟩ := by unfold Addr.add; split <;> simp_all
  rw [hadd, cell_of_row W B (k + j) C 28 (0, 0) hblk]
  have : (C.toList.drop k)[j]? = (l.map cellOf)[j]? := by rw [hdrop]
  rw [List.getElem?_drop, List.getElem?_map, List.getElem?_eq_getElem hj] at this
  simpa [cellOf] using this

theorem drop_set (C : Array Value) (k : Nat) (v : Value) (h : k < C.size) : (C.setIfInBounds k v).toList.drop k = v :: C.toList.drop (k + 1) := by
  have hl : k < C.toList.length := by simpa using h
  rw [Array.toList_setIfInBounds, List.drop_set, if_neg (by omega), Nat.sub_self]
  rw [List.drop_eq_getElem_cons hl, List.set_cons_zero]

theorem digit_byte (m : Int) (_h : 0 ≤ m) : ((UInt8.ofNat (48 + m % 10).toNat).toNat : Int) = 48 + m % 10 := by
  have h1 : (48 + m % 10).toNat < 256 := by omega
  rw [UInt8.toNat_ofNat_of_lt' h1]
  omega

set_option maxHeartbeats 1000000 in
theorem decimal_pos (n : Int) (w : World) (h0 : 0 < n) (h1 : n ≤ 18446744073709551615) (hz : (n == 0) = false) :
    Calls Trym.prog 8 #[.int .u64 n] w fun e w' => ∃ t : ByteArray, e = .returned (.string t) ∧ 0 < t.size ∧ t.size ≤ 20 ∧ allDig t.data.toList = true ∧ Below w.heap.size w w' := by
  go_enter Trym.func8, Trym.ntmps8
  go_wp2
  go_loopw [0, 4] (fun x i wr => ∃ (m : Int) (k : Nat) (C : Array Value) (l : List UInt8), x = .int .u64 m ∧ i = .int .i64 k ∧ 0 ≤ m ∧ m ≤ 18446744073709551615 ∧ Hid (m < (10 : Int) ^ k) ∧ k ≤ 20 ∧ (k = 20 → 0 < m) ∧
      Hid (wr.heap[w.heap.size]? = some (.cells C 28 (0, 0))) ∧ Hid (C.size = 20) ∧ Hid (C.toList.drop k = l.map cellOf) ∧ Hid (allDig l = true) ∧ Below w.heap.size w wr) (fun x _ _ => (intOf x).toNat)
  case atStart => exact ⟨n, 20, _, [], rfl, rfl, by omega, h1, (by omega : n < (10 : Int) ^ 20), Nat.le_refl _, fun _ => h0, heap_alloc_last _ _, (rfl : _ = 20), (rfl : _ = _), (rfl : _ = true), (Below.refl _ _).alloc (Nat.le_refl _) _⟩
  case round =>
    obtain ⟨m, k, C, l, rfl, rfl, hm0, hm1, hmk, hk, hk20, hblk, hC, hdrop, hall, hbel⟩ := hrel
    have hcell : ∀ j, wr.cell? ⟨w.heap.size, j, none⟩ = C[j]? := fun j => cell_of_row wr w.heap.size j C 28 (0, 0) hblk.out
    have hfr : ∀ j, wr.frozen? ⟨w.heap.size, j, none⟩ = false := fun j => frozen_of_row wr w.heap.size j C 28 hblk.out
    by_cases hpos : 0 < m
    · obtain ⟨k', rfl⟩ : ∃ k', k = k' + 1 := by
        cases k with
        | zero => have := hmk.out; simp at this; omega
        | succ k' => exact ⟨k', rfl⟩
      obtain ⟨old, hck⟩ : ∃ old, wr.cell? ⟨w.heap.size, k', none⟩ = some old := ⟨_, (hcell k').trans (Array.getElem?_eq_getElem (by have := hC.out; omega))⟩
      have hfk := hfr k'
      clear hcell hfr
      go_wp2
      go_roundw
      case rel =>
        refine ⟨m / 10, k', C.setIfInBounds k' (.int .u8 (48 + m % 10)), UInt8.ofNat (48 + m % 10).toNat :: l, rfl, rfl, by omega, by omega, ?_, by omega, by omega, heap_setCell_same _ _ _ _ _ _ hblk.out, ?_, ?_, ?_, hbel.setCell (Nat.le_refl _) _⟩
        · have h2 : m < (10 : Int) ^ k' * 10 := by rw [← Int.pow_succ]; exact hmk.out
          exact (by omega : m / 10 < (10 : Int) ^ k')
        · exact (by rw [Array.size_setIfInBounds]; exact hC.out : (C.setIfInBounds k' (.int .u8 (48 + m % 10))).size = 20)
        · exact (by rw [drop_set C k' _ (by have := hC.out; omega), hdrop.out, List.map_cons, cellOf, digit_byte m hm0] : (C.setIfInBounds k' (.int .u8 (48 + m % 10))).toList.drop k' = (UInt8.ofNat (48 + m % 10).toNat :: l).map cellOf)
        · exact (by have := hall.out; rw [allDig] at this ⊢; rw [List.all_cons, this, digit_byte m hm0, Bool.and_true]; simp only [dig, Bool.and_eq_true, decide_eq_true_eq]; omega : allDig (UInt8.ofNat (48 + m % 10).toNat :: l) = true)
      case measure => simp [intOf]; omega
    · obtain rfl : m = 0 := by omega
      have hk19 : k < 20 := by
        rcases Nat.lt_or_ge k 20 with h | h
        · exact h
        · have := hk20 (by omega); omega
      have hl : l.length = 20 - k := by
        have := congrArg List.length hdrop.out
        have h2 := hC.out
        simp at this
        omega
      have hsl := slice_buf wr w.heap.size k hk19
      have hcv := convert_buf wr w.heap.size k C l hl hblk.out hdrop.out
      have HL : Hid (l.length = 20 - k) := hl
      clear hcell hfr hl
      go_wp2
      go_ret
      refine ⟨⟨l.toArray⟩, rfl, ?_, ?_, hall.out, hbel⟩
      · have := HL.out; simp [ByteArray.size]; omega
      · have := HL.out; simp [ByteArray.size]; omega

theorem decimal_zero (w : World) :
    Calls Trym.prog 8 #[.int .u64 0] w fun e w' => ∃ t : ByteArray, e = .returned (.string t) ∧ 0 < t.size ∧ t.size ≤ 20 ∧ allDig t.data.toList = true ∧ Below w.heap.size w w' := by
  go_enter Trym.func8, Trym.ntmps8
  go_wp2
  go_ret
  exact ⟨⟨#[48]⟩, rfl, by decide, by decide, by decide, Below.refl _ _⟩

theorem decimal_any (n : Int) (w : World) (h0 : 0 ≤ n) (h1 : n ≤ 18446744073709551615) :
    Calls Trym.prog 8 #[.int .u64 n] w fun e w' => ∃ t : ByteArray, e = .returned (.string t) ∧ 0 < t.size ∧ t.size ≤ 20 ∧ allDig t.data.toList = true ∧ Below w.heap.size w w' := by
  by_cases hz : n = 0
  · subst hz; exact decimal_zero w
  · exact decimal_pos n w (by omega) h1 (by simpa using hz)

end Go.Proofs.Qxb6605159aMods
