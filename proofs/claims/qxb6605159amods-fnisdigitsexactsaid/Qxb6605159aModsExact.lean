/-
  The walk of the law FnIsDigitsExact (3).
-/
import Derived.Test.Qxb6605159aModsDigits
import Derived.LoopTactic
namespace Go.Proofs.Qxb6605159aMods
open Go.RowKit

/-- are the first k all digits? -/
def every (s : ByteArray) (k : Nat) : Bool := (s.data.toList.take k).all fun c => dig (c.toNat : Int)

theorem one_data (s : ByteArray) (k : Nat) (h : k < s.size) : (s.extract k (k + 1)).data.toList = [s[k]] := by
  have h1 : k < s.data.toList.length := by rw [← Lib.size_eq]; exact h
  rw [Lib.extract_data, show k + 1 - k = 1 from by omega, List.take_one, List.head?_drop, Lib.data_getElem? s k h]
  rfl

theorem one_digits (s : ByteArray) (k : Nat) (h : k < s.size) : digits (s.extract k (k + 1)).data.toList = dig (s[k].toNat : Int) := by
  rw [one_data s k h]
  simp [digits]

theorem every_succ (s : ByteArray) (k : Nat) (h : k < s.size) : every s (k + 1) = (every s k && dig (s[k].toNat : Int)) := by
  have h1 : k < s.data.toList.length := by rw [← Lib.size_eq]; exact h
  unfold every
  rw [List.take_succ_eq_append_getElem h1, List.all_append]
  have : s.data.toList[k] = s[k] := by
    have := Lib.data_getElem? s k h
    rw [List.getElem?_eq_getElem h1] at this
    exact Option.some.inj this
  rw [this]
  simp

theorem every_all (s : ByteArray) : digits s.data.toList = (decide (0 < (s.size : Int)) && every s s.size) := by
  unfold digits every
  rw [Lib.size_eq, List.take_length]
  congr 1
  cases h : s.data.toList with
  | nil => rfl
  | cons a l => simp

theorem exact_long (s : ByteArray) (w : World) (hm : s.size ≤ maxLen) (h : ¬ s.size ≤ 1048576) :
    Calls Trym.prog 3 #[.string s] w fun e w' => e = .returned (.bool true) ∧ Below w.heap.size w w' := by
  go_enter Trym.func3, Trym.ntmps3
  go_wp2_with fail
  refine (bytes_no _ _ hm h).mono ?_
  rintro e w' ⟨rfl, rfl⟩
  go_wp2
  go_ret
  exact ⟨rfl, Below.refl _ _⟩

set_option maxHeartbeats 1000000 in
theorem exact_short (s : ByteArray) (w : World) (h : s.size ≤ 1048576) :
    Calls Trym.prog 3 #[.string s] w fun e w' => e = .returned (.bool true) ∧ Below w.heap.size w w' := by
  go_enter Trym.func3, Trym.ntmps3
  go_wp2_with fail
  refine (bytes_yes _ _ h).mono ?_
  rintro e w' ⟨rfl, rfl⟩
  go_wp2_with fail
  go_loopw [3, 4] (fun ev i wr => ∃ k : Nat, k ≤ s.size ∧ i = .int .i64 k ∧ ev = .bool (every s k) ∧ Below w'.heap.size w' wr) (fun _ i _ => s.size - (intOf i).toNat)
  case atStart => exact ⟨0, Nat.zero_le _, rfl, rfl, Below.refl _ _⟩
  case round =>
    obtain ⟨k, hk, rfl, rfl, hb⟩ := hrel
    by_cases hlt : k < s.size
    · have H1 : Hid (digits (s.extract k (k + 1)).data.toList = dig (s[k].toNat : Int)) := one_digits s k hlt
      have hz : (s.extract k (k + 1)).size ≤ 2000000 := by simp; omega
      have HE : Hid (every s (k + 1) = (every s k && dig (s[k].toNat : Int))) := every_succ s k hlt
      cases hd : dig (s[k].toNat : Int)
      · rw [hd] at H1 HE
        have HD : Hid (dig (s[k].toNat : Int) = false) := hd
        clear hd
        go_wp2_with fail
        refine (zzIsDigits_any _ _ hz false H1.out).mono ?_
        rintro e w1 ⟨rfl, b1⟩
        go_wp2_with fail
        refine (decimalByte_any _ _ false HD.out).mono ?_
        rintro e w2 ⟨rfl, rfl⟩
        go_wp2
        go_roundw
        case rel => exact ⟨k + 1, by omega, by go_num, by rw [HE.out]; simp, hb.trans (b1.mono hb.size)⟩
        case measure => simp [intOf]; omega
      · rw [hd] at H1 HE
        have HD : Hid (dig (s[k].toNat : Int) = true) := hd
        clear hd
        go_wp2_with fail
        refine (zzIsDigits_any _ _ hz true H1.out).mono ?_
        rintro e w1 ⟨rfl, b1⟩
        go_wp2_with fail
        refine (decimalByte_any _ _ true HD.out).mono ?_
        rintro e w2 ⟨rfl, rfl⟩
        go_wp2
        go_roundw
        case rel => exact ⟨k + 1, by omega, by go_num, by rw [HE.out]; simp, hb.trans (b1.mono hb.size)⟩
        case measure => simp [intOf]; omega
    · obtain rfl : k = s.size := by omega
      have HA : Hid (digits s.data.toList = (decide (0 < (s.size : Int)) && every s s.size)) := every_all s
      go_wp2_with fail
      refine (zzIsDigits_any s _ (by omega) _ HA.out).mono ?_
      rintro e w1 ⟨rfl, b1⟩
      go_wp2
      all_goals
        go_ret
        exact ⟨rfl, hb.trans (b1.mono hb.size)⟩

theorem exact_any (s : ByteArray) (w : World) (hm : s.size ≤ maxLen) :
    Calls Trym.prog 3 #[.string s] w fun e w' => e = .returned (.bool true) ∧ Below w.heap.size w w' := by
  by_cases h : s.size ≤ 1048576
  · exact exact_short s w h
  · exact exact_long s w hm h

end Go.Proofs.Qxb6605159aMods
