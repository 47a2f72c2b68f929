import Derived.Test.Qxb6604059aModsStrs
import Derived.Test.Qxb6604059aModsPlain
import Derived.WalkKit
import Derived.WalkSpells
import Derived.WalkLawsBesides
import Derived.ProofKit
import Derived.RegionTactic
import Derived.ChangeAlike
import Derived.Deep.QuietTactic
import Derived.BigQuiet
import Derived.Deep.WholeRow
namespace Go.Proofs.Qxb6604059aMods
open Go.RowKit

theorem heap_two (w : World) (o1 o2 : Obj) : ((w.alloc o1).alloc o2).heap[w.heap.size + 1]? = some o2 := by
  have := heap_alloc_last (w.alloc o1) o2
  rwa [World.size_alloc] at this

theorem grown_trans {a b c : World} (h1 : Grown a b) (h2 : Grown b c) : Grown a c :=
  ⟨World.keptBut_trans h1.1 (World.keptBut_mono (fun _ f => f) h2.1), fun x => (h2.2.1 x).trans (h1.2.1 x), Nat.le_trans h1.2.2 h2.2.2⟩

/-- an old block behind a 'Grown' -/
theorem grown_block {a b : World} (h : Grown a b) {n : Nat} (hn : n < a.heap.size) {c : Array Value} {t : TypeId} {fr : Nat × Nat} (ha : a.heap[n]? = some (.cells c t fr)) : b.heap[n]? = some (.cells c t fr) := by
  have := h.1.2.2 n hn
  rw [ha] at this
  cases hb : b.heap[n]? with
  | none => rw [hb] at this; simp at this
  | some o =>
    rw [hb] at this
    cases o with
    | cells c' t' fr' =>
      simp only [not_false_eq_true, true_imp_iff] at this
      obtain ⟨rfl, rfl, _, h2⟩ := this
      have : c' = c := Array.ext_getElem? h2
      rw [this]
    | _ => simp at this

theorem sizeMk (a : Array UInt8) : ({ data := a } : ByteArray).size = a.size := rfl

set_option maxHeartbeats 1000000 in
theorem notifyCall_any (a b : ByteArray) (ha : a.size ≤ 4096) (hb : b.size ≤ 4096) (w : World) :
    Calls Trym.prog 27 #[.string a, .string b] w fun e w' => ∃ s : ByteArray, e = .returned (.string s) ∧ s.size ≤ 10000 ∧ w' = w := by
  go_enter Trym.func27, Trym.ntmps27
  go_wp2
  go_ret
  exact ⟨_, rfl, by simp [sizeMk]; omega, rfl⟩

set_option maxHeartbeats 1000000 in
theorem byAggregate_any (a : ByteArray) (ha : a.size ≤ 4096) (w : World) :
    Calls Trym.prog 26 #[.string a] w fun e w' => ∃ s : ByteArray, e = .returned (.string s) ∧ s.size ≤ 10000 ∧ w' = w := by
  go_enter Trym.func26, Trym.ntmps26
  go_wp2
  go_ret
  exact ⟨_, rfl, by simp [sizeMk]; omega, rfl⟩

set_option maxRecDepth 100000 in
set_option maxHeartbeats 4000000 in
theorem newQueries_any (q : ByteArray) (o p : ByteArray) (hq : q.size ≤ 4096) (w : World) :
    Calls Trym.prog 25 #[.agg #[.string q, .slice none 0 0, .slice none 0 0, .string o, .string p]] w fun e w' => ∃ s0 s1 s2 s3 s5 s6 : ByteArray, e = .returned (.agg #[.string s0, .string s1, .string s2, .string s3, .string (backlogS q), .string s5, .string s6, .string (cleanupS q)]) ∧ Grown w w' := by
  go_enter Trym.func25, Trym.ntmps25
  go_wp2_with fail
  refine (notifyCall_any _ _ ?_ ?_ _).mono ?_
  · simp [sizeMk]
  · simp [sizeMk]
  rintro e w' ⟨s0, rfl, h0, rfl⟩
  go_wp2
  exact bodyPost_ret (results_cell_row Trym.results25 _ _ (w.heap.size + 1) 53 _ (0, 0) _ rfl (heap_two _ _ _) Trym.underlying53 rfl (by kernel_rfl)) rfl
    ⟨_, _, _, _, _, _, rfl, ((Grown.refl _).alloc _ _).alloc _ _⟩

set_option maxRecDepth 100000 in
set_option maxHeartbeats 4000000 in
theorem zzNew_any (q o p : ByteArray) (hq : q.size ≤ 4096) (w : World) :
    Calls Trym.prog 22 #[.string q, .slice none 0 0, .slice none 0 0, .slice none 0 0, .string o, .string p] w fun e w' => ∃ s0 s1 s2 s3 s5 s6 : ByteArray, e = .returned (.tuple #[.string s0, .string s1, .string s2, .string s3, .string (backlogS q), .string s5, .string s6, .string (cleanupS q)]) ∧ Grown w w' := by
  go_enter Trym.func22, Trym.ntmps22
  go_wp2_with fail
  refine (newQueries_any _ _ _ hq _).mono ?_
  rintro e w' ⟨s0, s1, s2, s3, s5, s6, rfl, hg⟩
  go_wp2
  go_quiet (fail)
  go_wp2
  exact bodyPost_ret (v := .tuple #[.string s0, .string s1, .string s2, .string s3, .string (backlogS q), .string s5, .string s6, .string (cleanupS q)]) (by simp [results, Trym.results22, go_sem]) rfl ⟨_, _, _, _, _, _, rfl, hg.alloc _ _⟩

set_option maxRecDepth 100000 in
set_option maxHeartbeats 4000000 in
theorem zzQueries_any (q o p : ByteArray) (hq : q.size ≤ 4096) (w : World) :
    Calls Trym.prog 11 #[.string q, .slice none 0 0, .slice none 0 0, .slice none 0 0, .string o, .string p] w fun e w' => ∃ s0 s1 s2 s3 s5 s6 : ByteArray, e = .returned (.agg #[.string s0, .string s1, .string s2, .string s3, .string (backlogS q), .string s5, .string s6, .string (cleanupS q)]) ∧ Grown w w' := by
  go_enter Trym.func11, Trym.ntmps11
  go_wp2_with fail
  refine (zzNew_any _ _ _ hq _).mono ?_
  rintro e w1 ⟨s0, s1, s2, s3, s5, s6, rfl, hg⟩
  have hb := grown_block hg (n := w.heap.size) (by simp) (heap_alloc_last _ _)
  have c0 := cell_of_row w1 w.heap.size 0 _ _ _ hb
  have c1 := cell_of_row w1 w.heap.size 1 _ _ _ hb
  have c2 := cell_of_row w1 w.heap.size 2 _ _ _ hb
  have c3 := cell_of_row w1 w.heap.size 3 _ _ _ hb
  have c4 := cell_of_row w1 w.heap.size 4 _ _ _ hb
  have c5 := cell_of_row w1 w.heap.size 5 _ _ _ hb
  have c6 := cell_of_row w1 w.heap.size 6 _ _ _ hb
  have c7 := cell_of_row w1 w.heap.size 7 _ _ _ hb
  have hf : ∀ j, w1.frozen? ⟨w.heap.size, j, none⟩ = false := fun j => frozen_of_row w1 w.heap.size j _ _ hb
  simp at c0 c1 c2 c3 c4 c5 c6 c7
  have HB := (hb : Hid _)
  clear hb
  go_wp2
  have hb8 := heap_setCell_same _ _ 7 _ _ (.string (cleanupS q)) (heap_setCell_same _ _ 6 _ _ (.string s6) (heap_setCell_same _ _ 5 _ _ (.string s5) (heap_setCell_same _ _ 4 _ _ (.string (backlogS q))
    (heap_setCell_same _ _ 3 _ _ (.string s3) (heap_setCell_same _ _ 2 _ _ (.string s2) (heap_setCell_same _ _ 1 _ _ (.string s1) (heap_setCell_same _ _ 0 _ _ (.string s0) HB)))))))
  have g0 : Grown w w1 := grown_trans ((Grown.refl _).alloc _ _) hg
  exact bodyPost_ret (results_cell_row Trym.results11 _ _ w.heap.size 28 _ (0, 0) _ rfl hb8 Trym.underlying28 rfl (by kernel_rfl)) rfl
    ⟨_, _, _, _, _, _, rfl, (((((((g0.setCell (Nat.le_refl _) _).setCell (Nat.le_refl _) _).setCell (Nat.le_refl _) _).setCell (Nat.le_refl _) _).setCell (Nat.le_refl _) _).setCell (Nat.le_refl _) _).setCell (Nat.le_refl _) _).setCell (Nat.le_refl _) _⟩

end Go.Proofs.Qxb6604059aMods
