/-
  The contracts of the small string functions: contains (21), hasSuffix (20), isSpace (24), occursThen (19), indexOf (18), the length bound (17).
-/
import Derived.Test.Qxb6604059aModsRows
import Derived.WalkKit
import Derived.WalkSpells
import Derived.WalkLawsBesides
import Derived.ProofKit
import Derived.Lib.Strings
namespace Go.Proofs.Qxb6604059aMods
open Go.RowKit

set_option maxHeartbeats 400000 in
theorem contains_yes (s sub : ByteArray) (w : World) (k : Nat) (hk : k + sub.size ≤ s.size) (hs : s.size ≤ 1000000) (hit : ((s.extract k (k + sub.size)).toList == sub.toList) = true) :
    Calls Trym.prog 21 #[.string s, .string sub] w fun e w' => e = .returned (.bool true) ∧ w' = w := by
  go_enter Trym.func21, Trym.ntmps21
  go_wp2
  go_loop [5] (fun i => ∃ j : Nat, j ≤ k ∧ i = .int .i64 j) (fun i => s.size - (intOf i).toNat)
  case atStart => exact ⟨0, Nat.zero_le _, rfl⟩
  case round =>
    obtain ⟨j, hj, rfl⟩ := hrel
    by_cases hlt : j < k
    · go_wp2
      · go_ret
        exact ⟨rfl, rfl⟩
      · go_round
        case rel => exact ⟨j + 1, by omega, by go_num⟩
        case measure => simp [intOf]; omega
    · obtain rfl : j = k := by omega
      go_wp2
      go_ret
      exact ⟨rfl, rfl⟩

set_option maxHeartbeats 400000 in
theorem hasSuffix_yes (s suf : ByteArray) (w : World) (hk : suf.size ≤ s.size) (hs : s.size ≤ 1000000) (hit : ((s.extract (s.size - suf.size) s.size).toList == suf.toList) = true) :
    Calls Trym.prog 20 #[.string s, .string suf] w fun e w' => e = .returned (.bool true) ∧ w' = w := by
  go_enter Trym.func20, Trym.ntmps20
  go_wp2
  go_ret
  exact ⟨rfl, rfl⟩

def isSp (c : Int) : Bool := c == 32 || c == 9 || c == 10 || c == 13

set_option maxHeartbeats 400000 in
theorem isSpace_any (c : Int) (w : World) (b : Bool) (hb : isSp c = b) :
    Calls Trym.prog 24 #[.int .u8 c] w fun e w' => e = .returned (.bool b) ∧ w' = w := by
  subst hb
  have hd : (isSp c = true ∧ (c = 32 ∨ c = 9 ∨ c = 10 ∨ c = 13)) ∨ (isSp c = false ∧ (c == 32) = false ∧ (c == 9) = false ∧ (c == 10) = false ∧ (c == 13) = false) := by
    unfold isSp; simp; omega
  rcases hd with ⟨h, hc⟩ | ⟨h, h1, h2, h3, h4⟩
  · rw [h]; clear h
    rcases hc with rfl | rfl | rfl | rfl
    all_goals
      go_enter Trym.func24, Trym.ntmps24
      go_wp2
      go_ret
      exact ⟨rfl, rfl⟩
  · rw [h]; clear h
    go_enter Trym.func24, Trym.ntmps24
    go_wp2
    go_ret
    exact ⟨rfl, rfl⟩

set_option maxHeartbeats 1000000 in
theorem occursThen_yes (s pat next : ByteArray) (w : World) (k m : Nat) (hkm : k + pat.size ≤ m) (hm : m + next.size ≤ s.size) (hs : s.size ≤ 1000000)
    (hit : ((s.extract k (k + pat.size)).toList == pat.toList) = true) (HSP : Hid (∀ j, (h : j < s.size) → k + pat.size ≤ j → j < m → isSp ((s[j]'h).toNat : Int) = true))
    (HNO : Hid (∀ h : m < s.size, isSp ((s[m]'h).toNat : Int) = false)) (hn0 : 0 < next.size) (hit2 : ((s.extract m (m + next.size)).toList == next.toList) = true) :
    Calls Trym.prog 19 #[.string s, .string pat, .string next] w fun e w' => e = .returned (.bool true) ∧ w' = w := by
  go_enter Trym.func19, Trym.ntmps19
  go_wp2
  go_loop [7] (fun i => ∃ j : Nat, j ≤ k ∧ i = .int .i64 j) (fun i => s.size - (intOf i).toNat)
  case atStart => exact ⟨0, Nat.zero_le _, rfl⟩
  case round =>
    obtain ⟨j, hj, rfl⟩ := hrel
    by_cases hlt : j < k
    · go_wp2
      · go_round
        case rel => exact ⟨j + 1, by omega, by go_num⟩
        case measure => simp [intOf]; omega
      · go_loop [8] (fun i => ∃ l : Nat, l ≤ s.size ∧ i = .int .i64 l) (fun i => s.size - (intOf i).toNat)
        case atStart => exact ⟨j + pat.size, by omega, by go_num⟩
        case round =>
          obtain ⟨l, hl, rfl⟩ := hrel
          by_cases hls : l < s.size
          · by_cases hb : isSp ((s[l]'hls).toNat : Int) = true
            · have HB : Hid (isSp ((s[l]'hls).toNat : Int) = true) := hb
              clear hb
              go_wp2_with (go_at_call 24; refine (isSpace_any _ _ true HB.out).mono ?_; rintro e w' ⟨rfl, rfl⟩)
              go_round
              case rel => exact ⟨l + 1, by omega, by go_num⟩
              case measure => simp [intOf]; omega
            · have HB : Hid (isSp ((s[l]'hls).toNat : Int) = false) := (by simpa using hb : isSp ((s[l]'hls).toNat : Int) = false)
              clear hb
              go_wp2_with (go_at_call 24; refine (isSpace_any _ _ false HB.out).mono ?_; rintro e w' ⟨rfl, rfl⟩)
              · go_ret
                exact ⟨rfl, rfl⟩
              all_goals
                go_round
                case rel => exact ⟨j + 1, by omega, by go_num⟩
                case measure => simp [intOf]; omega
          · obtain rfl : l = s.size := by omega
            go_wp2_with fail
            go_round
            case rel => exact ⟨j + 1, by omega, by go_num⟩
            case measure => simp [intOf]; omega
    · obtain rfl : j = k := by omega
      go_wp2
      go_loop [8] (fun i => ∃ l : Nat, j + pat.size ≤ l ∧ l ≤ m ∧ i = .int .i64 l) (fun i => s.size - (intOf i).toNat)
      case atStart => exact ⟨j + pat.size, Nat.le_refl _, hkm, by go_num⟩
      case round =>
        obtain ⟨l, hl1, hl2, rfl⟩ := hrel
        have hls : l < s.size := by omega
        by_cases hlm : l < m
        · have HB : Hid (isSp ((s[l]'hls).toNat : Int) = true) := HSP.out l hls hl1 hlm
          go_wp2_with (go_at_call 24; refine (isSpace_any _ _ true HB.out).mono ?_; rintro e w' ⟨rfl, rfl⟩)
          go_round
          case rel => exact ⟨l + 1, by omega, by omega, by go_num⟩
          case measure => simp [intOf]; omega
        · obtain rfl : l = m := by omega
          have HB : Hid (isSp ((s[l]'hls).toNat : Int) = false) := HNO.out hls
          go_wp2_with (go_at_call 24; refine (isSpace_any _ _ false HB.out).mono ?_; rintro e w' ⟨rfl, rfl⟩)
          go_ret
          exact ⟨rfl, rfl⟩

set_option maxHeartbeats 400000 in
theorem indexOf_yes (b n : Nat) (f : Nat → ByteArray) (key : ByteArray) (k : Nat) (w : World) (hn : n ≤ 1000) (hk : k < n) (hc : ∀ i, i < n → w.cell? ⟨b, i, none⟩ = some (.string (f i)))
    (HM : Hid (∀ i, i < k → ((f i).toList == key.toList) = false)) (hit : ((f k).toList == key.toList) = true) :
    Calls Trym.prog 18 #[.slice (some ⟨b, 0, none⟩) n n, .string key] w fun e w' => e = .returned (.int .i64 k) ∧ w' = w := by
  go_enter Trym.func18, Trym.ntmps18
  go_wp2
  go_loop [5] (fun i => ∃ j : Nat, j ≤ k ∧ i = .int .i64 j) (fun i => n - (intOf i).toNat)
  case atStart => exact ⟨0, Nat.zero_le _, rfl⟩
  case round =>
    obtain ⟨j, hj, rfl⟩ := hrel
    have hcj := hc j (by omega)
    clear hc
    by_cases hlt : j < k
    · have hm := HM.out j hlt
      go_wp2
      go_round
      case rel => exact ⟨j + 1, by omega, by go_num⟩
      case measure => simp [intOf]; omega
    · obtain rfl : j = k := by omega
      go_wp2
      go_ret
      exact ⟨rfl, rfl⟩

set_option maxHeartbeats 400000 in
theorem bytes_yes (a b : ByteArray) (w : World) (h : a.size + b.size ≤ 1048576) :
    Calls Trym.prog 17 #[.string a, .string b] w fun e w' => e = .returned (.bool true) ∧ w' = w := by
  go_enter Trym.func17, Trym.ntmps17
  go_wp2
  go_ret
  exact ⟨rfl, rfl⟩

set_option maxHeartbeats 400000 in
theorem bytes_no (a b : ByteArray) (w : World) (ha : a.size ≤ maxLen) (hb : b.size ≤ maxLen) (h : ¬ a.size + b.size ≤ 1048576) :
    Calls Trym.prog 17 #[.string a, .string b] w fun e w' => e = .returned (.bool false) ∧ w' = w := by
  unfold maxLen at ha hb
  go_enter Trym.func17, Trym.ntmps17
  go_wp2
  all_goals
    go_ret
    exact ⟨rfl, rfl⟩

end Go.Proofs.Qxb6604059aMods
