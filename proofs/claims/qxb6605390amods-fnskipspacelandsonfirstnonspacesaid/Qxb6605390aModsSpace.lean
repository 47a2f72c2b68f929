/-
  The walk of the law FnSkipSpaceLandsOnFirstNonSpace (3).
-/
import Derived.Test.Qxb6605390aModsClone
namespace Go.Proofs.Qxb6605390aMods
open Go.RowKit

theorem space_long (a : Option Addr) (n cap : Nat) (i : Int) (w : World) (hm : n ≤ maxLen) (h : ¬ n ≤ 1048576) :
    Calls Trym.prog 3 #[.slice a n cap, .int .i64 i] w fun e w' => e = .returned (.bool true) ∧ Below w.heap.size w w' := by
  go_enter Trym.func3, Trym.ntmps3
  go_wp2_with fail
  refine (bytes_no _ _ _ _ _ hm h).mono ?_
  rintro e w' ⟨rfl, rfl⟩
  go_wp2
  go_ret
  exact ⟨rfl, Below.refl _ _⟩

theorem space_neg (a : Option Addr) (n cap : Nat) (i : Int) (w : World) (h : n ≤ 1048576) (hi : i < 0) :
    Calls Trym.prog 3 #[.slice a n cap, .int .i64 i] w fun e w' => e = .returned (.bool true) ∧ Below w.heap.size w w' := by
  go_enter Trym.func3, Trym.ntmps3
  go_wp2_with fail
  refine (bytes_yes _ _ _ _ _ h).mono ?_
  rintro e w' ⟨rfl, rfl⟩
  go_wp2
  go_ret
  exact ⟨rfl, Below.refl _ _⟩

theorem space_nil (i : Int) (w : World) (hi : 0 ≤ i) :
    Calls Trym.prog 3 #[.slice none 0 0, .int .i64 i] w fun e w' => e = .returned (.bool true) ∧ Below w.heap.size w w' := by
  go_enter Trym.func3, Trym.ntmps3
  go_wp2_with fail
  refine (bytes_yes _ _ _ _ _ (by omega)).mono ?_
  rintro e w' ⟨rfl, rfl⟩
  go_wp2_with fail
  refine (clone_nil _).mono ?_
  rintro e w' ⟨rfl, rfl⟩
  go_wp2_with fail
  refine (zzSkipSpace_past none 0 0 i _ hi).mono ?_
  rintro e w' ⟨rfl, rfl⟩
  go_wp2
  go_ret
  exact ⟨rfl, Below.refl _ _⟩

theorem space_zero (x : Addr) (cap : Nat) (i : Int) (w : World) (hi : 0 ≤ i) :
    Calls Trym.prog 3 #[.slice (some x) 0 cap, .int .i64 i] w fun e w' => e = .returned (.bool true) ∧ Below w.heap.size w w' := by
  go_enter Trym.func3, Trym.ntmps3
  go_wp2_with fail
  refine (bytes_yes _ _ _ _ _ (by omega)).mono ?_
  rintro e w' ⟨rfl, rfl⟩
  go_wp2_with fail
  refine (clone_zero x cap (fun _ => .int .u8 0) _).mono ?_
  rintro e w1 ⟨rfl, hr, hb⟩
  go_wp2_with fail
  refine (zzSkipSpace_past _ 0 0 i _ hi).mono ?_
  rintro e w2 ⟨rfl, rfl⟩
  go_wp2
  go_ret
  exact ⟨rfl, hb⟩

theorem space_past (b off len cap : Nat) (zs : List Int) (i : Int) (w : World) (hlen : len ≤ 1048576) (hb : b < w.heap.size) (hc : ∀ j, j < len → w.cell? ⟨b, off + j, none⟩ = some (.int .u8 (zs.getD j 0))) (hi : (len : Int) ≤ i) :
    Calls Trym.prog 3 #[.slice (some ⟨b, off, none⟩) len cap, .int .i64 i] w fun e w' => e = .returned (.bool true) ∧ Below w.heap.size w w' := by
  have HC : Hid (∀ j, j < len → w.cell? ⟨b, off + j, none⟩ = some (.int .u8 (zs.getD j 0))) := hc
  clear hc
  go_enter Trym.func3, Trym.ntmps3
  go_wp2_with fail
  refine (bytes_yes _ _ _ _ _ hlen).mono ?_
  rintro e w' ⟨rfl, rfl⟩
  go_wp2_with fail
  refine (clone_some b off len cap zs _ hlen hb HC.out).mono ?_
  rintro e w1 ⟨rfl, hr, hbel⟩
  clear hr
  go_wp2_with fail
  refine (zzSkipSpace_past _ len len i _ hi).mono ?_
  rintro e w2 ⟨rfl, rfl⟩
  go_wp2
  go_ret
  exact ⟨rfl, hbel⟩

set_option maxHeartbeats 1000000 in
theorem space_in (b off len cap : Nat) (zs : List Int) (i : Nat) (w : World) (hlen : len ≤ 1048576) (hb : b < w.heap.size) (hc : ∀ j, j < len → w.cell? ⟨b, off + j, none⟩ = some (.int .u8 (zs.getD j 0))) (hi : i < len) :
    Calls Trym.prog 3 #[.slice (some ⟨b, off, none⟩) len cap, .int .i64 (i : Int)] w fun e w' => e = .returned (.bool true) ∧ Below w.heap.size w w' := by
  have HC : Hid (∀ j, j < len → w.cell? ⟨b, off + j, none⟩ = some (.int .u8 (zs.getD j 0))) := hc
  clear hc
  go_enter Trym.func3, Trym.ntmps3
  go_wp2_with fail
  refine (bytes_yes _ _ _ _ _ hlen).mono ?_
  rintro e w' ⟨rfl, rfl⟩
  go_wp2_with fail
  refine (clone_some b off len cap zs _ hlen hb HC.out).mono ?_
  rintro e w1 ⟨rfl, hr, hbel⟩
  have HR : Hid (∀ k, k < len → w1.cell? ⟨w'.heap.size, k, none⟩ = some (.int .u8 (zs.getD k 0))) := fun k hk => hr.cell hk
  clear hr HC
  go_wp2_with fail
  refine (zzSkipSpace_in w'.heap.size len len (fun k => zs.getD k 0) i _ hlen (by omega) HR).mono ?_
  rintro e w2 ⟨⟨j, rfl, l1, l2, l3, l4⟩, rfl⟩
  have L3 : Hid (∀ k, i ≤ k → k < j → isSp (zs.getD k 0) = true) := l3
  have L4 : Hid (j < len → isSp (zs.getD j 0) = false) := l4
  clear l3 l4
  have d1 : decide (j < i) = false := by simp; omega
  have d2 : decide (len < j) = false := by simp; omega
  have d3 : decide (len ≤ i) = false := by simp; omega
  go_wp2_with fail
  go_loop [6] (fun x => ∃ k : Nat, x = .int .i64 k ∧ i ≤ k ∧ k ≤ j) (fun x => len - (intOf x).toNat)
  case atStart => exact ⟨i, rfl, Nat.le_refl _, l1⟩
  case round =>
    obtain ⟨k, rfl, hk1, hk2⟩ := hrel
    by_cases hkj : k < j
    · have hck := HR.out k (by omega)
      have HS : Hid (isSp (zs.getD k 0) = true) := L3.out k hk1 hkj
      go_wp2_with fail
      refine (isSpace_any _ _ true HS.out).mono ?_
      rintro e w3 ⟨rfl, rfl⟩
      go_wp2
      go_round
      case rel => exact ⟨k + 1, by go_num, by omega, by omega⟩
      case measure => simp [intOf]; omega
    · obtain rfl : k = j := by omega
      by_cases hkl : k < len
      · have hck := HR.out k hkl
        have HS : Hid (isSp (zs.getD k 0) = false) := L4.out hkl
        have hne : ((k : Int) == (len : Int)) = false := by simp; omega
        go_wp2_with fail
        refine (isSpace_any _ _ false HS.out).mono ?_
        rintro e w3 ⟨rfl, rfl⟩
        go_wp2
        go_ret
        exact ⟨rfl, hbel⟩
      · obtain rfl : k = len := by omega
        go_wp2
        go_ret
        exact ⟨rfl, hbel⟩

end Go.Proofs.Qxb6605390aMods
