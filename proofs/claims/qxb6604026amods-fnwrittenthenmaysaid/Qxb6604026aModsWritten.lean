/-
  The contracts of 'written' (10), 'ZZKeyWritten' (8), the second length bound (7).
-/
import Derived.Test.Qxb6604026aModsMay
import Derived.RegionTactic
import Derived.ChangeAlike
import Derived.Deep.QuietTactic
import Derived.BigQuiet
namespace Go.Proofs.Qxb6604026aMods
open Go.RowKit

set_option maxHeartbeats 400000 in
/-- a revision is told -/
theorem written_told (v : ByteArray) (found : Bool) (rev : Int) (ex : Bool) (kind key wv : ByteArray) (p : Option Addr) (r : Int) (hr : (r != 0) = true) (hs : v.size + wv.size ≤ 1048576) (w : World) :
    Calls Trym.prog 10 #[.agg #[.string v, .bool found, .int .u64 rev, .bool ex], .agg #[.string kind, .string key, .string wv, .pointer p], .int .u64 r] w fun e w' => ∃ nv : ByteArray, e = .returned (.agg #[.string nv, .bool true, .int .u64 r, .bool true]) ∧ Grown w w' := by
  go_enter Trym.func10, Trym.ntmps10
  go_wp2
  · exact bodyPost_ret (v := .agg #[.string (v ++ wv), .bool true, .int .u64 r, .bool true]) (by simp [results, Trym.results10, go_sem]) rfl ⟨_, rfl, ((((Grown.refl _).alloc _ _).alloc _ _).alloc _ _).alloc _ _⟩
  · exact bodyPost_ret (v := .agg #[.string wv, .bool true, .int .u64 r, .bool true]) (by simp [results, Trym.results10, go_sem]) rfl ⟨_, rfl, ((((Grown.refl _).alloc _ _).alloc _ _).alloc _ _).alloc _ _⟩

set_option maxHeartbeats 400000 in
/-- no revision is told; no condition -/
theorem written_bare (v : ByteArray) (found : Bool) (rev : Int) (ex : Bool) (kind key wv : ByteArray) (hs : v.size + wv.size ≤ 1048576) (w : World) :
    Calls Trym.prog 10 #[.agg #[.string v, .bool found, .int .u64 rev, .bool ex], .agg #[.string kind, .string key, .string wv, .pointer none], .int .u64 0] w fun e w' => ∃ nv : ByteArray, e = .returned (.agg #[.string nv, .bool true, .int .u64 rev, .bool false]) ∧ Grown w w' := by
  go_enter Trym.func10, Trym.ntmps10
  go_wp2
  · exact bodyPost_ret (v := .agg #[.string (v ++ wv), .bool true, .int .u64 rev, .bool false]) (by simp [results, Trym.results10, go_sem]) rfl ⟨_, rfl, ((((Grown.refl _).alloc _ _).alloc _ _).alloc _ _).alloc _ _⟩
  · exact bodyPost_ret (v := .agg #[.string wv, .bool true, .int .u64 rev, .bool false]) (by simp [results, Trym.results10, go_sem]) rfl ⟨_, rfl, ((((Grown.refl _).alloc _ _).alloc _ _).alloc _ _).alloc _ _⟩

set_option maxHeartbeats 400000 in
/-- no revision is told; a condition with a revision of its own -/
theorem written_cond (v : ByteArray) (found : Bool) (rev : Int) (ex : Bool) (kind key wv : ByteArray) (b : Nat) (ir mx : Int) (hmx : (if rev < ir then ir else rev) = mx) (hs : v.size + wv.size ≤ 1048576) (w : World) (hb : b < w.heap.size) (hc : w.cell? ⟨b, 2, none⟩ = some (.int .u64 ir)) :
    Calls Trym.prog 10 #[.agg #[.string v, .bool found, .int .u64 rev, .bool ex], .agg #[.string kind, .string key, .string wv, .pointer (some ⟨b, 0, none⟩)], .int .u64 0] w fun e w' => ∃ nv : ByteArray, e = .returned (.agg #[.string nv, .bool true, .int .u64 mx, .bool false]) ∧ Grown w w' := by
  have h4 : ∀ o1 o2 o3 o4, ((((w.alloc o1).alloc o2).alloc o3).alloc o4).cell? ⟨b, 2, none⟩ = some (.int .u64 ir) := by
    intro o1 o2 o3 o4
    rw [World.cell?_alloc_past, World.cell?_alloc_past, World.cell?_alloc_past, World.cell?_alloc_past]
    · exact hc
    all_goals first | omega | (simp only [World.size_alloc]; omega)
  go_enter Trym.func10, Trym.ntmps10
  go_wp2
  all_goals go_region
  all_goals go_wp2
  · exact bodyPost_ret (v := .agg #[.string (v ++ wv), .bool true, .int .u64 mx, .bool false]) (by simp [results, Trym.results10, go_sem]) rfl ⟨_, rfl, by repeat (first | exact Grown.refl _ | apply Grown.drew | apply Grown.alloc)⟩
  · exact bodyPost_ret (v := .agg #[.string wv, .bool true, .int .u64 mx, .bool false]) (by simp [results, Trym.results10, go_sem]) rfl ⟨_, rfl, by repeat (first | exact Grown.refl _ | apply Grown.drew | apply Grown.alloc)⟩

set_option maxHeartbeats 800000 in
/-- 'ZZKeyWritten', a revision told -/
theorem keyWritten_told (v : ByteArray) (found : Bool) (rev : Int) (ex : Bool) (kind key wv : ByteArray) (hif : Bool) (iv : ByteArray) (ifd : Bool) (ir r : Int) (hr : (r != 0) = true) (hs : v.size + wv.size ≤ 1048576) (w : World) :
    Calls Trym.prog 8 #[.string v, .bool found, .int .u64 rev, .bool ex, .string kind, .string key, .string wv, .bool hif, .string iv, .bool ifd, .int .u64 ir, .int .u64 r] w fun e w' => ∃ nv : ByteArray, e = .returned (.tuple #[.string nv, .bool true, .int .u64 r, .bool true]) ∧ Grown w w' := by
  cases hif
  · go_enter Trym.func8, Trym.ntmps8
    go_wp2_with fail
    refine (written_told _ _ _ _ _ _ _ _ _ hr hs _).mono ?_
    rintro e w' ⟨nv, rfl, hg⟩
    go_wp2
    go_quiet (fail)
    go_wp2
    exact bodyPost_ret (v := .tuple #[.string nv, .bool true, .int .u64 r, .bool true]) (by simp [results, Trym.results8, go_sem]) rfl ⟨_, rfl, hg.alloc _ _⟩
  · go_enter Trym.func8, Trym.ntmps8
    go_wp2_with fail
    refine (written_told _ _ _ _ _ _ _ _ _ hr hs _).mono ?_
    rintro e w' ⟨nv, rfl, hg⟩
    go_wp2
    go_quiet (fail)
    go_wp2
    exact bodyPost_ret (v := .tuple #[.string nv, .bool true, .int .u64 r, .bool true]) (by simp [results, Trym.results8, go_sem]) rfl ⟨_, rfl, (grown_trans ((Grown.refl _).alloc _ _) hg).alloc _ _⟩

set_option maxHeartbeats 800000 in
/-- 'ZZKeyWritten', no revision told, no condition -/
theorem keyWritten_bare (v : ByteArray) (found : Bool) (rev : Int) (ex : Bool) (kind key wv : ByteArray) (iv : ByteArray) (ifd : Bool) (ir : Int) (hs : v.size + wv.size ≤ 1048576) (w : World) :
    Calls Trym.prog 8 #[.string v, .bool found, .int .u64 rev, .bool ex, .string kind, .string key, .string wv, .bool false, .string iv, .bool ifd, .int .u64 ir, .int .u64 0] w fun e w' => ∃ nv : ByteArray, e = .returned (.tuple #[.string nv, .bool true, .int .u64 rev, .bool false]) ∧ Grown w w' := by
  go_enter Trym.func8, Trym.ntmps8
  go_wp2_with fail
  refine (written_bare _ _ _ _ _ _ _ hs _).mono ?_
  rintro e w' ⟨nv, rfl, hg⟩
  go_wp2
  go_quiet (fail)
  go_wp2
  exact bodyPost_ret (v := .tuple #[.string nv, .bool true, .int .u64 rev, .bool false]) (by simp [results, Trym.results8, go_sem]) rfl ⟨_, rfl, hg.alloc _ _⟩

set_option maxHeartbeats 800000 in
/-- 'ZZKeyWritten', no revision told, a condition -/
theorem keyWritten_cond (v : ByteArray) (found : Bool) (rev : Int) (ex : Bool) (kind key wv : ByteArray) (iv : ByteArray) (ifd : Bool) (ir mx : Int) (hmx : Hid ((if rev < ir then ir else rev) = mx)) (hs : v.size + wv.size ≤ 1048576) (w : World) :
    Calls Trym.prog 8 #[.string v, .bool found, .int .u64 rev, .bool ex, .string kind, .string key, .string wv, .bool true, .string iv, .bool ifd, .int .u64 ir, .int .u64 0] w fun e w' => ∃ nv : ByteArray, e = .returned (.tuple #[.string nv, .bool true, .int .u64 mx, .bool false]) ∧ Grown w w' := by
  go_enter Trym.func8, Trym.ntmps8
  go_wp2_with fail
  refine (written_cond _ _ _ _ _ _ _ _ ir mx hmx.out hs _ ?_ ?_).mono ?_
  · simp
  · simp
  rintro e w' ⟨nv, rfl, hg⟩
  go_wp2
  go_quiet (fail)
  go_wp2
  exact bodyPost_ret (v := .tuple #[.string nv, .bool true, .int .u64 mx, .bool false]) (by simp [results, Trym.results8, go_sem]) rfl ⟨_, rfl, (grown_trans ((Grown.refl _).alloc _ _) hg).alloc _ _⟩

set_option maxHeartbeats 400000 in
theorem bytesWritten_yes (v : ByteArray) (found : Bool) (rev : Int) (ex : Bool) (kind key wv : ByteArray) (h : Bool) (iv : ByteArray) (ifd : Bool) (ir r q : Int) (hs : v.size + kind.size + key.size + wv.size + iv.size ≤ 1048576) (w : World) :
    Calls Trym.prog 7 #[.string v, .bool found, .int .u64 rev, .bool ex, .string kind, .string key, .string wv, .agg #[.bool h, .string iv, .bool ifd, .int .u64 ir], .int .u64 r, .int .u64 q] w fun e w' => e = .returned (.bool true) ∧ Grown w w' := by
  go_enter Trym.func7, Trym.ntmps7
  go_wp2
  go_ret
  exact ⟨rfl, (Grown.refl _).alloc _ _⟩

set_option maxHeartbeats 1000000 in
theorem bytesWritten_any (v : ByteArray) (found : Bool) (rev : Int) (ex : Bool) (kind key wv : ByteArray) (h : Bool) (iv : ByteArray) (ifd : Bool) (ir r q : Int) 
    (hv : v.size ≤ maxLen) (hk : kind.size ≤ maxLen) (hy : key.size ≤ maxLen) (hw : wv.size ≤ maxLen) (hi : iv.size ≤ maxLen) (hs : ¬ v.size + kind.size + key.size + wv.size + iv.size ≤ 1048576) (w : World) :
    Calls Trym.prog 7 #[.string v, .bool found, .int .u64 rev, .bool ex, .string kind, .string key, .string wv, .agg #[.bool h, .string iv, .bool ifd, .int .u64 ir], .int .u64 r, .int .u64 q] w fun e w' => e = .returned (.bool false) ∧ Grown w w' := by
  unfold maxLen at hv hk hy hw hi
  go_enter Trym.func7, Trym.ntmps7
  go_wp2
  all_goals
    go_ret
    exact ⟨rfl, (Grown.refl _).alloc _ _⟩

end Go.Proofs.Qxb6604026aMods
