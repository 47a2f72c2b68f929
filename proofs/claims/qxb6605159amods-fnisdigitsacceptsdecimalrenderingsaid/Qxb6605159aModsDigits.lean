/-
  The contracts of isDigits (9), ZZisDigits (6), decimalByte (7), the length bound (5).
-/
import Derived.Test.Qxb6605159aModsRows
import Derived.WalkKit
import Derived.WalkSpells
import Derived.WalkLawsBesides
import Derived.ProofKit
import Derived.Lib.Strings
import Derived.Lib.IndexBytes
namespace Go.Proofs.Qxb6605159aMods
open Go.RowKit

/-- is it one of the ten digits? -/
def dig (c : Int) : Bool := decide (48 ≤ c) && decide (c ≤ 57)
/-- what isDigits answers -/
def digits (s : List UInt8) : Bool := !s.isEmpty && s.all fun c => dig (c.toNat : Int)

set_option maxHeartbeats 400000 in
theorem isDigits_core_yes (s : ByteArray) (cap : Nat) (C : Array Value) (w : World) (hs : s.size ≤ 2000000) (hne : s.toList.isEmpty = false)
    (hconv : (convert 9 26 (.string s)).run Trym.prog w = .ok (.slice (some ⟨w.heap.size, 0, none⟩) s.size cap) (w.drew.alloc (.cells C 5 (C.size, C.size + 1))))
    (f : Nat → Int) (hC : ∀ j, j < s.size → (w.alloc (.cells C 5 (C.size, C.size + 1))).cell? ⟨w.heap.size, j, none⟩ = some (.int .u8 (f j))) (HD : Hid (∀ j, j < s.size → 48 ≤ f j ∧ f j ≤ 57)) :
    Calls Trym.prog 9 #[.string s] w fun e w' => e = .returned (.bool true) ∧ Below w.heap.size w w' := by
  go_enter Trym.func9, Trym.ntmps9
  go_wp2
  go_loop [10] (fun i => ∃ j : Nat, j ≤ s.size ∧ i = .int .i64 j) (fun i => s.size - (intOf i).toNat)
  case atStart => exact ⟨0, Nat.zero_le _, rfl⟩
  case round =>
    obtain ⟨j, hj, rfl⟩ := hrel
    clear hconv
    by_cases hlt : j < s.size
    · have hcj := hC j hlt
      have h1 := (HD.out j hlt).1
      have h2 := (HD.out j hlt).2
      clear hC
      go_wp2
      go_round
      case rel => exact ⟨j + 1, by omega, by go_num⟩
      case measure => simp [intOf]; omega
    · clear hC
      go_wp2
      go_ret
      exact ⟨rfl, ((Below.refl _ _).alloc (Nat.le_refl _) _).drew⟩

set_option maxHeartbeats 400000 in
theorem isDigits_core_no (s : ByteArray) (cap : Nat) (C : Array Value) (w : World) (hs : s.size ≤ 2000000) (hne : s.toList.isEmpty = false)
    (hconv : (convert 9 26 (.string s)).run Trym.prog w = .ok (.slice (some ⟨w.heap.size, 0, none⟩) s.size cap) (w.drew.alloc (.cells C 5 (C.size, C.size + 1))))
    (f : Nat → Int) (hC : ∀ j, j < s.size → (w.alloc (.cells C 5 (C.size, C.size + 1))).cell? ⟨w.heap.size, j, none⟩ = some (.int .u8 (f j))) (k : Nat) (hk : k < s.size) (HD : Hid (f k < 48 ∨ 57 < f k)) :
    Calls Trym.prog 9 #[.string s] w fun e w' => e = .returned (.bool false) ∧ Below w.heap.size w w' := by
  go_enter Trym.func9, Trym.ntmps9
  go_wp2
  go_loop [10] (fun i => ∃ j : Nat, j ≤ k ∧ i = .int .i64 j) (fun i => s.size - (intOf i).toNat)
  case atStart => exact ⟨0, Nat.zero_le _, rfl⟩
  case round =>
    obtain ⟨j, hj, rfl⟩ := hrel
    clear hconv
    have hcj := hC j (by omega)
    clear hC
    by_cases hlt : j < k
    · by_cases h1 : f j < 48
      · go_wp2
        go_ret
        exact ⟨rfl, ((Below.refl _ _).alloc (Nat.le_refl _) _).drew⟩
      · by_cases h2 : 57 < f j
        · go_wp2
          go_ret
          exact ⟨rfl, ((Below.refl _ _).alloc (Nat.le_refl _) _).drew⟩
        · go_wp2
          go_round
          case rel => exact ⟨j + 1, by omega, by go_num⟩
          case measure => simp [intOf]; omega
    · obtain rfl : j = k := by omega
      have hd := HD.out
      clear HD
      rcases hd with h1 | h1
      all_goals
        go_wp2
        go_ret
        exact ⟨rfl, ((Below.refl _ _).alloc (Nat.le_refl _) _).drew⟩

theorem isDigits_empty (s : ByteArray) (w : World) (hne : s.toList.isEmpty = true) :
    Calls Trym.prog 9 #[.string s] w fun e w' => e = .returned (.bool false) ∧ Below w.heap.size w w' := by
  go_enter Trym.func9, Trym.ntmps9
  go_wp2
  go_ret
  exact ⟨rfl, Below.refl _ _⟩

/-- isDigits at every string of a modest length -/
theorem isDigits_any (s : ByteArray) (w : World) (hs : s.size ≤ 2000000) :
    Calls Trym.prog 9 #[.string s] w fun e w' => e = .returned (.bool (digits s.data.toList)) ∧ Below w.heap.size w w' := by
  have hsz := Lib.size_eq s
  have hconv := run_bytes_of_string (P := Trym.prog) w 9 26 5 s Trym.underlying9 Trym.underlying26 Trym.underlying5
  have hC : ∀ j, j < s.size → (w.alloc (.cells (bytesRow s (grownCap w s.size 0 5)) 5 ((bytesRow s (grownCap w s.size 0 5)).size, (bytesRow s (grownCap w s.size 0 5)).size + 1))).cell? ⟨w.heap.size, j, none⟩ = some (.int .u8 ((s.data.toList.getD j 0).toNat : Int)) := by
    intro j hj
    rw [World.cell?_alloc_mark, bytesRow_at s _ j hj]
    simp [Array.getElem?_eq_getElem (show j < s.data.size from hj)]
  by_cases he : s.data.toList = []
  · have : digits s.data.toList = false := by rw [he]; rfl
    rw [this]
    exact isDigits_empty s w (by rw [Lib.toList_data, he]; rfl)
  · have hne : s.toList.isEmpty = false := by rw [Lib.toList_data]; simpa using he
    by_cases hall : ∀ j, j < s.size → 48 ≤ ((s.data.toList.getD j 0).toNat : Int) ∧ ((s.data.toList.getD j 0).toNat : Int) ≤ 57
    · have : digits s.data.toList = true := by
        have h1 : s.data.toList.isEmpty = false := by simpa using he
        rw [digits, h1, Bool.not_false, Bool.true_and, List.all_eq_true]
        intro c hc
        obtain ⟨j, hj, rfl⟩ := List.getElem_of_mem hc
        have := hall j (by omega)
        rw [List.getD_eq_getElem?_getD, List.getElem?_eq_getElem hj, Option.getD_some] at this
        simp only [dig, Bool.and_eq_true, decide_eq_true_eq]
        exact this
      rw [this]
      exact isDigits_core_yes s _ _ w hs hne hconv _ hC hall
    · obtain ⟨k, hk, hb⟩ : ∃ k, k < s.size ∧ (((s.data.toList.getD k 0).toNat : Int) < 48 ∨ 57 < ((s.data.toList.getD k 0).toNat : Int)) := by
        apply Classical.byContradiction
        intro hn
        apply hall
        intro j hj
        apply Classical.byContradiction
        intro hj2
        exact hn ⟨j, hj, by omega⟩
      have : digits s.data.toList = false := by
        have hkl : k < s.data.toList.length := by omega
        have hm : s.data.toList.getD k 0 ∈ s.data.toList := by
          rw [List.getD_eq_getElem?_getD, List.getElem?_eq_getElem hkl, Option.getD_some]
          exact List.getElem_mem hkl
        have h2 : s.data.toList.all (fun c => dig (c.toNat : Int)) = false := by
          rw [List.all_eq_false]
          refine ⟨_, hm, ?_⟩
          simp only [dig, Bool.and_eq_true, decide_eq_true_eq]
          omega
        rw [digits, h2, Bool.and_false]
      rw [this]
      exact isDigits_core_no s _ _ w hs hne hconv _ hC k hk hb

theorem zzIsDigits_any (s : ByteArray) (w : World) (hs : s.size ≤ 2000000) (b : Bool) (hb : digits s.data.toList = b) :
    Calls Trym.prog 6 #[.string s] w fun e w' => e = .returned (.bool b) ∧ Below w.heap.size w w' := by
  subst hb
  go_enter Trym.func6, Trym.ntmps6
  go_wp2_with fail
  refine (isDigits_any s _ hs).mono ?_
  rintro e w' ⟨rfl, hb⟩
  go_wp2
  go_ret
  exact ⟨rfl, hb⟩

set_option maxHeartbeats 1000000 in
theorem decimalByte_yes (c : Int) (w : World) (h : 48 ≤ c ∧ c ≤ 57) :
    Calls Trym.prog 7 #[.int .u8 c] w fun e w' => e = .returned (.bool true) ∧ w' = w := by
  have : c = 48 ∨ c = 49 ∨ c = 50 ∨ c = 51 ∨ c = 52 ∨ c = 53 ∨ c = 54 ∨ c = 55 ∨ c = 56 ∨ c = 57 := by omega
  rcases this with rfl | rfl | rfl | rfl | rfl | rfl | rfl | rfl | rfl | rfl
  all_goals
    go_enter Trym.func7, Trym.ntmps7
    go_wp2
    go_ret
    exact ⟨rfl, rfl⟩

set_option maxHeartbeats 1000000 in
theorem decimalByte_no (c : Int) (w : World) (h : c < 48 ∨ 57 < c) :
    Calls Trym.prog 7 #[.int .u8 c] w fun e w' => e = .returned (.bool false) ∧ w' = w := by
  rcases h with h | h
  all_goals
    go_enter Trym.func7, Trym.ntmps7
    go_wp2
    go_ret
    exact ⟨rfl, rfl⟩

theorem decimalByte_any (c : Int) (w : World) (b : Bool) (hb : dig c = b) :
    Calls Trym.prog 7 #[.int .u8 c] w fun e w' => e = .returned (.bool b) ∧ w' = w := by
  subst hb
  by_cases h : 48 ≤ c ∧ c ≤ 57
  · have : dig c = true := by simp only [dig, Bool.and_eq_true, decide_eq_true_eq]; exact h
    rw [this]
    exact decimalByte_yes c w h
  · have : dig c = false := by rw [← Bool.not_eq_true]; simp only [dig, Bool.and_eq_true, decide_eq_true_eq]; exact h
    rw [this]
    exact decimalByte_no c w (by omega)

theorem bytes_yes (a : ByteArray) (w : World) (h : a.size ≤ 1048576) :
    Calls Trym.prog 5 #[.string a] w fun e w' => e = .returned (.bool true) ∧ w' = w := by
  go_enter Trym.func5, Trym.ntmps5
  go_wp2
  go_ret
  exact ⟨rfl, rfl⟩

theorem bytes_no (a : ByteArray) (w : World) (ha : a.size ≤ maxLen) (h : ¬ a.size ≤ 1048576) :
    Calls Trym.prog 5 #[.string a] w fun e w' => e = .returned (.bool false) ∧ w' = w := by
  unfold maxLen at ha
  go_enter Trym.func5, Trym.ntmps5
  go_wp2
  all_goals
    go_ret
    exact ⟨rfl, rfl⟩

end Go.Proofs.Qxb6605159aMods
