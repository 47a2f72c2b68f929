/-
  The walk of the law FnIsDigitsAcceptsDecimalRendering (4).
-/
import Derived.Test.Qxb6605159aModsDecimal
namespace Go.Proofs.Qxb6605159aMods
open Go.RowKit

theorem dlist (a b : ByteArray) : (a ++ b).data.toList = a.data.toList ++ b.data.toList := by simp
theorem not_empty {t : ByteArray} (h : 0 < t.size) : t.data.toList.isEmpty = false := by
  rw [Lib.size_eq] at h
  cases ht : t.data.toList with
  | nil => rw [ht] at h; simp at h
  | cons a l => rfl

theorem digits_self {t : ByteArray} (h : 0 < t.size) (ha : allDig t.data.toList = true) : digits t.data.toList = true := by
  unfold allDig at ha
  rw [digits, not_empty h, ha]; rfl
theorem digits_behind {t o : ByteArray} (ha : allDig t.data.toList = true) {c : UInt8} (ho : o.data.toList = [c]) : digits (t ++ o).data.toList = dig (c.toNat : Int) := by
  unfold allDig at ha
  rw [dlist, ho, digits, List.all_append, ha]
  simp
theorem digits_ahead {t o : ByteArray} (ha : allDig t.data.toList = true) {c : UInt8} (ho : o.data.toList = [c]) : digits (o ++ t).data.toList = dig (c.toNat : Int) := by
  unfold allDig at ha
  rw [dlist, ho, digits, List.all_append, ha]
  simp

theorem byte_of {c : Int} (h0 : 0 ≤ c) (h1 : c ≤ 255) : ((UInt8.ofNat c.toNat).toNat : Int) = c := by
  rw [UInt8.toNat_ofNat_of_lt' (show c.toNat < 256 by omega)]
  omega

theorem convert_one (W : World) (c : Int) (h0 : 0 ≤ c) (h1 : c ≤ 255) :
    (convert 26 9 (.slice (some ⟨W.heap.size, 0, none⟩) 1 1)).run Trym.prog (W.alloc (.cells #[.int .u8 c] 5)) = .ok (.string ⟨#[UInt8.ofNat c.toNat]⟩) (W.alloc (.cells #[.int .u8 c] 5)) := by
  refine run_convert_bytes_back (W.alloc (.cells #[.int .u8 c] 5)) 26 9 5 ⟨W.heap.size, 0, none⟩ 1 [UInt8.ofNat c.toNat] Trym.underlying26 Trym.underlying5 Trym.underlying9 ?_
  intro j hj
  obtain rfl : j = 0 := by simpa using hj
  simp only [List.getElem_cons_zero, byte_of h0 h1]
  simp [Addr.add]

theorem one_size (c : UInt8) : ({ data := #[c] } : ByteArray).size = 1 := rfl
theorem zz_minus (t : ByteArray) (w : World) (h : t.size ≤ 20) (ha : allDig t.data.toList = true) :
    Calls Trym.prog 6 #[.string (({ data := #[45] } : ByteArray) ++ t)] w fun e w' => e = .returned (.bool false) ∧ Below w.heap.size w w' := by
  refine zzIsDigits_any _ w ?_ false ?_
  · rw [ByteArray.size_append, one_size]; omega
  · rw [digits_ahead ha (c := 45) rfl]; decide
theorem zz_dot (t : ByteArray) (w : World) (h : t.size ≤ 20) (ha : allDig t.data.toList = true) :
    Calls Trym.prog 6 #[.string (t ++ ({ data := #[46] } : ByteArray))] w fun e w' => e = .returned (.bool false) ∧ Below w.heap.size w w' := by
  refine zzIsDigits_any _ w ?_ false ?_
  · rw [ByteArray.size_append, one_size]; omega
  · rw [digits_behind ha (c := 46) rfl]; decide

set_option maxHeartbeats 1000000 in
theorem render_any (n c : Int) (w : World) (h0 : 0 ≤ n) (h1 : n ≤ 18446744073709551615) (c0 : 0 ≤ c) (c1 : c ≤ 255) :
    Calls Trym.prog 4 #[.int .u64 n, .int .u8 c] w fun e w' => e = .returned (.bool true) ∧ Below w.heap.size w w' := by
  obtain ⟨o, ho⟩ : ∃ o : ByteArray, Hid (o = ⟨#[UInt8.ofNat c.toNat]⟩) := ⟨_, (rfl : _ = _)⟩
  have hcv : ∀ W : World, (convert 26 9 (.slice (some ⟨W.heap.size, 0, none⟩) 1 1)).run Trym.prog (W.alloc (.cells #[.int .u8 c] 5)) = .ok (.string o) (W.alloc (.cells #[.int .u8 c] 5)) := fun W => by rw [ho.out]; exact convert_one W c c0 c1
  have HO : Hid (o.data.toList = [UInt8.ofNat c.toNat]) := (by rw [ho.out] : o.data.toList = [UInt8.ofNat c.toNat])
  have hos : o.size ≤ 1 := by rw [ho.out]; exact Nat.le_refl 1
  have HB : Hid (((UInt8.ofNat c.toNat).toNat : Int) = c) := byte_of c0 c1
  obtain ⟨d, HD⟩ : ∃ d, Hid (dig c = d) := ⟨_, (rfl : _ = _)⟩
  clear ho
  go_enter Trym.func4, Trym.ntmps4
  go_wp2_with fail
  refine (decimal_any n _ h0 h1).mono ?_
  rintro e w1 ⟨t, rfl, t0, t1, ta, b1⟩
  have TA : Hid (allDig t.data.toList = true) := ta
  clear ta
  have b2 : Below w.heap.size w (w1.alloc (.cells #[.int .u8 c] 5)) := b1.alloc b1.size _
  go_wp2_with fail
  refine (zzIsDigits_any t _ (by omega) true (digits_self t0 TA.out)).mono ?_
  rintro e w2 ⟨rfl, b3⟩
  have b4 := b2.trans (b3.mono b2.size)
  clear b1 b2 b3 hcv
  cases d
  · go_wp2_with fail
    refine (zzIsDigits_any (t ++ o) _ (by simp; omega) false ((digits_behind TA.out HO.out).trans (by rw [HB.out]; exact HD.out))).mono ?_
    rintro e w3 ⟨rfl, b5⟩
    have b6 := b4.trans (b5.mono b4.size)
    clear b4 b5
    go_wp2_with fail
    refine (decimalByte_any _ _ false HD.out).mono ?_
    rintro e w4 ⟨rfl, rfl⟩
    go_wp2_with fail
    refine (zzIsDigits_any (o ++ t) _ (by simp; omega) false ((digits_ahead TA.out HO.out).trans (by rw [HB.out]; exact HD.out))).mono ?_
    rintro e w5 ⟨rfl, b7⟩
    have b8 := b6.trans (b7.mono b6.size)
    clear b6 b7
    go_wp2_with fail
    refine (decimalByte_any _ _ false HD.out).mono ?_
    rintro e w6 ⟨rfl, rfl⟩
    go_wp2_with fail
    refine (zz_minus t _ t1 TA.out).mono ?_
    rintro e w7 ⟨rfl, b9⟩
    have b10 := b8.trans (b9.mono b8.size)
    clear b8 b9
    go_wp2_with fail
    refine (zz_dot t _ t1 TA.out).mono ?_
    rintro e w8 ⟨rfl, b11⟩
    have b12 := b10.trans (b11.mono b10.size)
    go_wp2
    go_ret
    exact ⟨rfl, b12⟩
  · go_wp2_with fail
    refine (zzIsDigits_any (t ++ o) _ (by simp; omega) true ((digits_behind TA.out HO.out).trans (by rw [HB.out]; exact HD.out))).mono ?_
    rintro e w3 ⟨rfl, b5⟩
    have b6 := b4.trans (b5.mono b4.size)
    clear b4 b5
    go_wp2_with fail
    refine (decimalByte_any _ _ true HD.out).mono ?_
    rintro e w4 ⟨rfl, rfl⟩
    go_wp2_with fail
    refine (zzIsDigits_any (o ++ t) _ (by simp; omega) true ((digits_ahead TA.out HO.out).trans (by rw [HB.out]; exact HD.out))).mono ?_
    rintro e w5 ⟨rfl, b7⟩
    have b8 := b6.trans (b7.mono b6.size)
    clear b6 b7
    go_wp2_with fail
    refine (decimalByte_any _ _ true HD.out).mono ?_
    rintro e w6 ⟨rfl, rfl⟩
    go_wp2_with fail
    refine (zz_minus t _ t1 TA.out).mono ?_
    rintro e w7 ⟨rfl, b9⟩
    have b10 := b8.trans (b9.mono b8.size)
    clear b8 b9
    go_wp2_with fail
    refine (zz_dot t _ t1 TA.out).mono ?_
    rintro e w8 ⟨rfl, b11⟩
    have b12 := b10.trans (b11.mono b10.size)
    go_wp2
    go_ret
    exact ⟨rfl, b12⟩

end Go.Proofs.Qxb6605159aMods
