/-
  The walk of the law FnWrittenThenMay (4), one theorem a way.
-/
import Derived.Test.Qxb6604026aModsWritten
namespace Go.Proofs.Qxb6604026aMods
open Go.RowKit

theorem may_not (rev : Int) (ex : Bool) (q : Int) : mayB true rev ex false q = false := rfl
theorem may_at {rev q : Int} {b : Bool} (h : (q == rev) = b) : mayB true rev true true q = b := h
theorem may_over {rev q : Int} {b : Bool} (h : decide (rev < q) = b) : mayB true rev false true q = b := h

set_option maxHeartbeats 400000 in
/-- too long: true at once -/
theorem law_long (v : ByteArray) (found : Bool) (rev : Int) (ex : Bool) (kind key wv : ByteArray) (h : Bool) (iv : ByteArray) (ifd : Bool) (ir r q : Int)
    (hv : v.size ≤ maxLen) (hk : kind.size ≤ maxLen) (hy : key.size ≤ maxLen) (hw : wv.size ≤ maxLen) (hi : iv.size ≤ maxLen) (hs : ¬ v.size + kind.size + key.size + wv.size + iv.size ≤ 1048576) (w : World) :
    Calls Trym.prog 4 #[.string v, .bool found, .int .u64 rev, .bool ex, .string kind, .string key, .string wv, .agg #[.bool h, .string iv, .bool ifd, .int .u64 ir], .int .u64 r, .int .u64 q] w fun e w' => e = .returned (.bool true) ∧ Grown w w' := by
  go_enter Trym.func4, Trym.ntmps4
  go_wp2_with fail
  refine (bytesWritten_any _ _ _ _ _ _ _ _ _ _ _ _ _ hv hk hy hw hi hs _).mono ?_
  rintro e w' ⟨rfl, hg⟩
  go_wp2
  go_ret
  exact ⟨rfl, grown_trans ((Grown.refl _).alloc _ _) hg⟩

/-- an old cell behind a 'Grown' -/
theorem grown_cell {a b : World} (h : Grown a b) {n i : Nat} (hn : n < a.heap.size) : b.cell? ⟨n, i, none⟩ = a.cell? ⟨n, i, none⟩ :=
  h.1.cell hn (fun f => f)

set_option maxHeartbeats 800000 in
/-- a revision is told -/
theorem law_told (v : ByteArray) (found : Bool) (rev : Int) (ex : Bool) (kind key wv : ByteArray) (h : Bool) (iv : ByteArray) (ifd : Bool) (ir r q : Int) (b : Bool)
    (hr : (r != 0) = true) (hb : (q == r) = b) (hs : v.size + kind.size + key.size + wv.size + iv.size ≤ 1048576) (w : World) :
    Calls Trym.prog 4 #[.string v, .bool found, .int .u64 rev, .bool ex, .string kind, .string key, .string wv, .agg #[.bool h, .string iv, .bool ifd, .int .u64 ir], .int .u64 r, .int .u64 q] w fun e w' => e = .returned (.bool true) ∧ Grown w w' := by
  go_enter Trym.func4, Trym.ntmps4
  go_wp2_with fail
  refine (bytesWritten_yes _ _ _ _ _ _ _ _ _ _ _ _ _ hs _).mono ?_
  rintro e w1 ⟨rfl, g1⟩
  have c0 := grown_cell g1 (n := w.heap.size) (i := 0) (by simp)
  have c1 := grown_cell g1 (n := w.heap.size) (i := 1) (by simp)
  have c2 := grown_cell g1 (n := w.heap.size) (i := 2) (by simp)
  have c3 := grown_cell g1 (n := w.heap.size) (i := 3) (by simp)
  simp at c0 c1 c2 c3
  go_wp2_with fail
  refine (keyWritten_told _ _ _ _ _ _ _ _ _ _ _ _ hr (by omega) _).mono ?_
  rintro e w2 ⟨nv, rfl, g2⟩
  go_wp2_with fail
  refine (keyMay_any _ _ _ _ _ _ _ (may_not _ _ _) _).mono ?_
  rintro e w3 ⟨rfl, g3⟩
  go_wp2_with fail
  refine (keyMay_any _ _ _ _ _ _ _ (may_at hb) _).mono ?_
  rintro e w4 ⟨rfl, g4⟩
  go_wp2
  go_ret
  exact ⟨by simp, grown_trans (grown_trans (grown_trans (grown_trans ((Grown.refl _).alloc _ _) g1) g2) g3) g4⟩

set_option maxHeartbeats 800000 in
/-- no revision is told, no condition -/
theorem law_bare (v : ByteArray) (found : Bool) (rev : Int) (ex : Bool) (kind key wv : ByteArray) (iv : ByteArray) (ifd : Bool) (ir q : Int) (b : Bool)
    (hb : decide (rev < q) = b) (hs : v.size + kind.size + key.size + wv.size + iv.size ≤ 1048576) (w : World) :
    Calls Trym.prog 4 #[.string v, .bool found, .int .u64 rev, .bool ex, .string kind, .string key, .string wv, .agg #[.bool false, .string iv, .bool ifd, .int .u64 ir], .int .u64 0, .int .u64 q] w fun e w' => e = .returned (.bool true) ∧ Grown w w' := by
  go_enter Trym.func4, Trym.ntmps4
  go_wp2_with fail
  refine (bytesWritten_yes _ _ _ _ _ _ _ _ _ _ _ _ _ hs _).mono ?_
  rintro e w1 ⟨rfl, g1⟩
  have c0 := grown_cell g1 (n := w.heap.size) (i := 0) (by simp)
  have c1 := grown_cell g1 (n := w.heap.size) (i := 1) (by simp)
  have c2 := grown_cell g1 (n := w.heap.size) (i := 2) (by simp)
  have c3 := grown_cell g1 (n := w.heap.size) (i := 3) (by simp)
  simp at c0 c1 c2 c3
  have z1 : w.heap.size < w1.heap.size := by have := g1.2.2; simp at this; omega
  go_wp2_with fail
  refine (keyWritten_bare _ _ _ _ _ _ _ _ _ _ (by omega) _).mono ?_
  rintro e w2 ⟨nv, rfl, g2⟩
  have d0 := (grown_cell g2 (n := w.heap.size) (i := 0) z1).trans c0
  have d3 := (grown_cell g2 (n := w.heap.size) (i := 3) z1).trans c3
  have z2 : w.heap.size < w2.heap.size := Nat.lt_of_lt_of_le z1 g2.2.2
  go_wp2_with fail
  refine (keyMay_any _ _ _ _ _ _ _ (may_not _ _ _) _).mono ?_
  rintro e w3 ⟨rfl, g3⟩
  have e0 := (grown_cell g3 (n := w.heap.size) (i := 0) z2).trans d0
  have e3 := (grown_cell g3 (n := w.heap.size) (i := 3) z2).trans d3
  have z3 : w.heap.size < w3.heap.size := Nat.lt_of_lt_of_le z2 g3.2.2
  go_wp2_with fail
  refine (keyMay_any _ _ _ _ _ _ _ (may_over hb) _).mono ?_
  rintro e w4 ⟨rfl, g4⟩
  have f0 := (grown_cell g4 (n := w.heap.size) (i := 0) z3).trans e0
  have f3 := (grown_cell g4 (n := w.heap.size) (i := 3) z3).trans e3
  clear c0 c1 c2 c3 d0 d3 e0 e3 z1 z2 z3
  go_wp2
  go_ret
  exact ⟨by simp, grown_trans (grown_trans (grown_trans (grown_trans ((Grown.refl _).alloc _ _) g1) g2) g3) g4⟩

set_option maxHeartbeats 800000 in
/-- no revision is told, a condition whose revision is above the old one -/
theorem law_over (v : ByteArray) (found : Bool) (rev : Int) (ex : Bool) (kind key wv : ByteArray) (iv : ByteArray) (ifd : Bool) (ir q : Int) (b : Bool)
    (hm : rev < ir) (hb : decide (ir < q) = b) (hs : v.size + kind.size + key.size + wv.size + iv.size ≤ 1048576) (w : World) :
    Calls Trym.prog 4 #[.string v, .bool found, .int .u64 rev, .bool ex, .string kind, .string key, .string wv, .agg #[.bool true, .string iv, .bool ifd, .int .u64 ir], .int .u64 0, .int .u64 q] w fun e w' => e = .returned (.bool true) ∧ Grown w w' := by
  go_enter Trym.func4, Trym.ntmps4
  go_wp2_with fail
  refine (bytesWritten_yes _ _ _ _ _ _ _ _ _ _ _ _ _ hs _).mono ?_
  rintro e w1 ⟨rfl, g1⟩
  have c0 := grown_cell g1 (n := w.heap.size) (i := 0) (by simp)
  have c1 := grown_cell g1 (n := w.heap.size) (i := 1) (by simp)
  have c2 := grown_cell g1 (n := w.heap.size) (i := 2) (by simp)
  have c3 := grown_cell g1 (n := w.heap.size) (i := 3) (by simp)
  simp at c0 c1 c2 c3
  have z1 : w.heap.size < w1.heap.size := by have := g1.2.2; simp at this; omega
  go_wp2_with fail
  refine (keyWritten_cond _ _ _ _ _ _ _ _ _ _ ir (if_pos hm) (by omega) _).mono ?_
  rintro e w2 ⟨nv, rfl, g2⟩
  have d0 := (grown_cell g2 (n := w.heap.size) (i := 0) z1).trans c0
  have d3 := (grown_cell g2 (n := w.heap.size) (i := 3) z1).trans c3
  have z2 : w.heap.size < w2.heap.size := Nat.lt_of_lt_of_le z1 g2.2.2
  go_wp2_with fail
  refine (keyMay_any _ _ _ _ _ _ _ (may_not _ _ _) _).mono ?_
  rintro e w3 ⟨rfl, g3⟩
  have e0 := (grown_cell g3 (n := w.heap.size) (i := 0) z2).trans d0
  have e3 := (grown_cell g3 (n := w.heap.size) (i := 3) z2).trans d3
  have z3 : w.heap.size < w3.heap.size := Nat.lt_of_lt_of_le z2 g3.2.2
  go_wp2_with fail
  refine (keyMay_any _ _ _ _ _ _ _ (may_over hb) _).mono ?_
  rintro e w4 ⟨rfl, g4⟩
  have f0 := (grown_cell g4 (n := w.heap.size) (i := 0) z3).trans e0
  have f3 := (grown_cell g4 (n := w.heap.size) (i := 3) z3).trans e3
  clear c0 c1 c2 c3 d0 d3 e0 e3 z1 z2 z3
  go_wp2
  go_ret
  exact ⟨by simp, grown_trans (grown_trans (grown_trans (grown_trans ((Grown.refl _).alloc _ _) g1) g2) g3) g4⟩

set_option maxHeartbeats 800000 in
/-- no revision is told, a condition whose revision is not above the old one -/
theorem law_under (v : ByteArray) (found : Bool) (rev : Int) (ex : Bool) (kind key wv : ByteArray) (iv : ByteArray) (ifd : Bool) (ir q : Int) (b : Bool)
    (hm : ¬ rev < ir) (hb : decide (rev < q) = b) (hs : v.size + kind.size + key.size + wv.size + iv.size ≤ 1048576) (w : World) :
    Calls Trym.prog 4 #[.string v, .bool found, .int .u64 rev, .bool ex, .string kind, .string key, .string wv, .agg #[.bool true, .string iv, .bool ifd, .int .u64 ir], .int .u64 0, .int .u64 q] w fun e w' => e = .returned (.bool true) ∧ Grown w w' := by
  go_enter Trym.func4, Trym.ntmps4
  go_wp2_with fail
  refine (bytesWritten_yes _ _ _ _ _ _ _ _ _ _ _ _ _ hs _).mono ?_
  rintro e w1 ⟨rfl, g1⟩
  have c0 := grown_cell g1 (n := w.heap.size) (i := 0) (by simp)
  have c1 := grown_cell g1 (n := w.heap.size) (i := 1) (by simp)
  have c2 := grown_cell g1 (n := w.heap.size) (i := 2) (by simp)
  have c3 := grown_cell g1 (n := w.heap.size) (i := 3) (by simp)
  simp at c0 c1 c2 c3
  have z1 : w.heap.size < w1.heap.size := by have := g1.2.2; simp at this; omega
  go_wp2_with fail
  refine (keyWritten_cond _ _ _ _ _ _ _ _ _ _ rev (if_neg (by omega)) (by omega) _).mono ?_
  rintro e w2 ⟨nv, rfl, g2⟩
  have d0 := (grown_cell g2 (n := w.heap.size) (i := 0) z1).trans c0
  have d3 := (grown_cell g2 (n := w.heap.size) (i := 3) z1).trans c3
  have z2 : w.heap.size < w2.heap.size := Nat.lt_of_lt_of_le z1 g2.2.2
  go_wp2_with fail
  refine (keyMay_any _ _ _ _ _ _ _ (may_not _ _ _) _).mono ?_
  rintro e w3 ⟨rfl, g3⟩
  have e0 := (grown_cell g3 (n := w.heap.size) (i := 0) z2).trans d0
  have e3 := (grown_cell g3 (n := w.heap.size) (i := 3) z2).trans d3
  have z3 : w.heap.size < w3.heap.size := Nat.lt_of_lt_of_le z2 g3.2.2
  go_wp2_with fail
  refine (keyMay_any _ _ _ _ _ _ _ (may_over hb) _).mono ?_
  rintro e w4 ⟨rfl, g4⟩
  have f0 := (grown_cell g4 (n := w.heap.size) (i := 0) z3).trans e0
  have f3 := (grown_cell g4 (n := w.heap.size) (i := 3) z3).trans e3
  clear c0 c1 c2 c3 d0 d3 e0 e3 z1 z2 z3
  go_wp2
  go_ret
  exact ⟨by simp, grown_trans (grown_trans (grown_trans (grown_trans ((Grown.refl _).alloc _ _) g1) g2) g3) g4⟩

theorem law_any (v : ByteArray) (found : Bool) (rev : Int) (ex : Bool) (kind key wv : ByteArray) (h : Bool) (iv : ByteArray) (ifd : Bool) (ir r q : Int)
    (hv : v.size ≤ maxLen) (hk : kind.size ≤ maxLen) (hy : key.size ≤ maxLen) (hw : wv.size ≤ maxLen) (hi : iv.size ≤ maxLen) (w : World) :
    Calls Trym.prog 4 #[.string v, .bool found, .int .u64 rev, .bool ex, .string kind, .string key, .string wv, .agg #[.bool h, .string iv, .bool ifd, .int .u64 ir], .int .u64 r, .int .u64 q] w fun e w' => e = .returned (.bool true) ∧ Grown w w' := by
  by_cases hs : v.size + kind.size + key.size + wv.size + iv.size ≤ 1048576
  · by_cases hr : r = 0
    · subst hr
      cases h
      · exact law_bare v found rev ex kind key wv iv ifd ir q _ rfl hs w
      · by_cases hm : rev < ir
        · exact law_over v found rev ex kind key wv iv ifd ir q _ hm rfl hs w
        · exact law_under v found rev ex kind key wv iv ifd ir q _ hm rfl hs w
    · exact law_told v found rev ex kind key wv h iv ifd ir r q _ (by simpa using hr) rfl hs w
  · exact law_long v found rev ex kind key wv h iv ifd ir r q hv hk hy hw hi hs w

end Go.Proofs.Qxb6604026aMods
