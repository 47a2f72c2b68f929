/-
  The contracts of tableIndexes (23) and ZZTableIndexes (16).
-/
import Derived.Test.Qxb6604059aModsQueries
namespace Go.Proofs.Qxb6604059aMods
open Go.RowKit

set_option maxRecDepth 100000 in
set_option maxHeartbeats 1000000 in
theorem tableIndexes_any (o : ByteArray) (ho : o.size ≤ 4096) (w : World) :
    Calls Trym.prog 23 #[.string o] w fun e w' => ∃ c1 c2 c3 : ByteArray, e = .returned (.slice (some ⟨w.heap.size, 0, none⟩) 5 5) ∧
      w' = w.alloc (.cells #[.string nUnheld, .string o, .string kUnheld, .string nFailed, .string c1, .string kFailed, .string nHeld, .string c2, .string kHeld, .string nUnheldAgg, .string c3, .string kUnheld, .string nSettled, .string cSettled, .string kSettled] 46) := by
  go_enter Trym.func23, Trym.ntmps23
  go_wp2_with fail
  refine (byAggregate_any _ ho _).mono ?_
  rintro e w' ⟨c1, rfl, h1, rfl⟩
  go_wp2_with fail
  refine (byAggregate_any _ ho _).mono ?_
  rintro e w' ⟨c2, rfl, h2, rfl⟩
  go_wp2_with fail
  refine (byAggregate_any _ ho _).mono ?_
  rintro e w' ⟨c3, rfl, h3, rfl⟩
  go_wp2
  go_ret
  exact ⟨c1, c2, c3, rfl, rfl⟩

theorem blk_alloc {w : World} {n : Nat} {c : Obj} (h : w.heap[n]? = some c) (o : Obj) : (w.alloc o).heap[n]? = some c := by
  have hn : n < w.heap.size := by
    rcases Nat.lt_or_ge n w.heap.size with h1 | h1
    · exact h1
    · rw [Array.getElem?_eq_none h1] at h; cases h
  show (w.heap.push o)[n]? = some c
  rw [Array.getElem?_push, if_neg (by omega)]
  exact h
theorem blk_new {w : World} {n : Nat} (o : Obj) (hn : n = w.heap.size) : (w.alloc o).heap[n]? = some o := by
  subst hn
  exact heap_alloc_last w o

set_option maxRecDepth 100000 in
set_option maxHeartbeats 1000000 in
theorem zzTable_any (o : ByteArray) (ho : o.size ≤ 4096) (w : World) :
    Calls Trym.prog 16 #[.string o] w fun e w' => ∃ b : Nat, e = .returned (.tuple #[.slice (some ⟨b, 0, none⟩) 5 5, .slice (some ⟨b + 1, 0, none⟩) 5 5, .slice (some ⟨b + 2, 0, none⟩) 5 5]) ∧ (∃ c1 c2 c3 : ByteArray,
      w'.heap[b]? = some (.cells #[.string nUnheld, .string nFailed, .string nHeld, .string nUnheldAgg, .string nSettled] 9 (0, 0)) ∧
      w'.heap[b + 1]? = some (.cells #[.string o, .string c1, .string c2, .string c3, .string cSettled] 9 (0, 0)) ∧
      w'.heap[b + 2]? = some (.cells #[.string kUnheld, .string kFailed, .string kHeld, .string kUnheld, .string kSettled] 9 (0, 0))) ∧ Grown w w' := by
  have hmk : ∀ w, (Instr.makeSlice 22 (.int .i64 0) (.int .i64 5)).run Trym.prog w = .ok (.slice (some ⟨w.heap.size, 0, none⟩) 0 5) (w.alloc (.cells #[.string ⟨#[]⟩, .string ⟨#[]⟩, .string ⟨#[]⟩, .string ⟨#[]⟩, .string ⟨#[]⟩] 9)) := fun _ => by kernel_rfl
  go_enter Trym.func16, Trym.ntmps16
  go_wp2_with fail
  refine (tableIndexes_any _ ho _).mono ?_
  rintro e w' ⟨c1, c2, c3, rfl, rfl⟩
  go_wp2
  refine wp_loop_rounds 6 ?_
  rw [rounds_succ]
  go_wp2
  rw [rounds_succ]
  go_wp2
  rw [rounds_succ]
  go_wp2
  rw [rounds_succ]
  go_wp2
  rw [rounds_succ]
  go_wp2
  rw [rounds_succ]
  go_wp2
  go_ret3
  refine ⟨w.heap.size + 1, rfl, ⟨c1, c2, c3, ?_, ?_, ?_⟩, ?_⟩
  · iterate 17 apply blk_alloc
    exact blk_new _ (by simp)
  · iterate 16 apply blk_alloc
    exact blk_new _ (by simp)
  · iterate 15 apply blk_alloc
    exact blk_new _ (by simp)
  · iterate 19 apply Grown.alloc
    exact Grown.refl _

end Go.Proofs.Qxb6604059aMods
