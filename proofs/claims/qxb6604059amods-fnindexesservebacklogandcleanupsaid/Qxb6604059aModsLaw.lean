/-
  The walk of the law FnIndexesServeBacklogAndCleanup (6).
-/
import Derived.Test.Qxb6604059aModsOccurs
namespace Go.Proofs.Qxb6604059aMods
open Go.RowKit

theorem law_long (q o : ByteArray) (hq : q.size ≤ maxLen) (ho : o.size ≤ maxLen) (h : ¬ q.size + o.size ≤ 1048576) (w : World) :
    Calls Trym.prog 6 #[.string q, .string o] w fun e w' => e = .returned (.bool true) ∧ Grown w w' := by
  go_enter Trym.func6, Trym.ntmps6
  go_wp2_with fail
  refine (bytes_no _ _ _ hq ho h).mono ?_
  rintro e w' ⟨rfl, rfl⟩
  go_wp2
  go_ret
  exact ⟨rfl, Grown.refl _⟩

theorem law_wide (q o : ByteArray) (h : q.size + o.size ≤ 1048576) (h2 : ¬ (q.size ≤ 4096 ∧ o.size ≤ 4096)) (w : World) :
    Calls Trym.prog 6 #[.string q, .string o] w fun e w' => e = .returned (.bool true) ∧ Grown w w' := by
  by_cases h1 : q.size ≤ 4096
  · have h3 : ¬ o.size ≤ 4096 := fun h => h2 ⟨h1, h⟩
    clear h2
    go_enter Trym.func6, Trym.ntmps6
    go_wp2_with fail
    refine (bytes_yes _ _ _ h).mono ?_
    rintro e w' ⟨rfl, rfl⟩
    go_wp2
    go_ret
    exact ⟨rfl, Grown.refl _⟩
  · clear h2
    go_enter Trym.func6, Trym.ntmps6
    go_wp2_with fail
    refine (bytes_yes _ _ _ h).mono ?_
    rintro e w' ⟨rfl, rfl⟩
    go_wp2
    go_ret
    exact ⟨rfl, Grown.refl _⟩

theorem occurs_backlog (q : ByteArray) (hq : q.size ≤ 4096) (w : World) :
    Calls Trym.prog 19 #[.string (backlogS q), .string (sFrom ++ q ++ sWhere ++ kUnheld), .string sUnion] w fun e w' => e = .returned (.bool true) ∧ w' = w := by
  have zb := backlog_size q hq
  obtain ⟨A, B, hAB⟩ := backlog_unheld q
  obtain ⟨k, m, m1, m2, m3, m4, m5, m6, m7⟩ := occurs_of hAB (by decide) (c := 85) (r := sUnion.data.toList.tail) (by decide +kernel) (by decide)
  exact occursThen_yes _ _ _ w k m m1 m2 (by omega) m3 m4 m5 m6 m7
theorem suffix_backlog (q : ByteArray) (hq : q.size ≤ 4096) (w : World) :
    Calls Trym.prog 20 #[.string (backlogS q), .string (sFrom ++ q ++ sWhere ++ kHeld ++ bTail)] w fun e w' => e = .returned (.bool true) ∧ w' = w := by
  have zb := backlog_size q hq
  obtain ⟨A, hA⟩ := backlog_held q
  have h := suffix_of hA
  exact hasSuffix_yes _ _ w h.1 (by omega) h.2
theorem where_cleanup (q : ByteArray) (hq : q.size ≤ 4096) (w : World) :
    Calls Trym.prog 21 #[.string (cleanupS q), .string (sWhere2 ++ kSettled ++ sAnd ++ settledAt ++ sLess)] w fun e w' => e = .returned (.bool true) ∧ w' = w := by
  have zb := cleanup_size q hq
  obtain ⟨A, B, hA⟩ := cleanup_where q
  have h := hit_of hA
  exact contains_yes _ _ w A.length h.1 (by omega) h.2
theorem order_cleanup (q : ByteArray) (hq : q.size ≤ 4096) (w : World) :
    Calls Trym.prog 21 #[.string (cleanupS q), .string (sOrder ++ settledAt ++ sLimit)] w fun e w' => e = .returned (.bool true) ∧ w' = w := by
  have zb := cleanup_size q hq
  obtain ⟨A, B, hA⟩ := cleanup_order q
  have h := hit_of hA
  exact contains_yes _ _ w A.length h.1 (by omega) h.2

set_option maxRecDepth 100000 in
set_option maxHeartbeats 400000 in
theorem law_main (q o : ByteArray) (hq : q.size ≤ 4096) (ho : o.size ≤ 4096) (w : World) :
    Calls Trym.prog 6 #[.string q, .string o] w fun e w' => e = .returned (.bool true) ∧ Grown w w' := by
  go_enter Trym.func6, Trym.ntmps6
  go_wp2_with fail
  refine (bytes_yes _ _ _ (by omega)).mono ?_
  rintro e w' ⟨rfl, rfl⟩
  go_wp2_with fail
  refine (zzQueries_any _ _ _ hq _).mono ?_
  rintro e w1 ⟨s0, s1, s2, s3, s5, s6, rfl, g1⟩
  go_wp2_with fail
  refine (zzTable_any _ ho _).mono ?_
  rintro e w2 ⟨b, rfl, ⟨c1, c2, c3, hn, hc, hk⟩, g2⟩
  have hqb := grown_block g2 (n := w1.heap.size) (by simp) (heap_alloc_last _ _)
  have q4 := cell_of_row w2 w1.heap.size 4 _ _ _ hqb
  have q7 := cell_of_row w2 w1.heap.size 7 _ _ _ hqb
  have k0 := cell_of_row w2 (b + 2) 0 _ _ _ hk
  have k2 := cell_of_row w2 (b + 2) 2 _ _ _ hk
  have k4 := cell_of_row w2 (b + 2) 4 _ _ _ hk
  have cc := cell_of_row w2 (b + 1) 4 _ _ _ hc
  simp at q4 q7 k0 k2 k4 cc
  have HN : Hid (∀ i, i < 5 → w2.cell? ⟨b, i, none⟩ = some (.string (nameAt i))) := fun i hi => by
    rw [cell_of_row w2 b i _ _ _ hn]
    match i, hi with
    | 0, _ => rfl
    | 1, _ => rfl
    | 2, _ => rfl
    | 3, _ => rfl
    | 4, _ => rfl
  have G : Hid (Grown w' w2) := grown_trans g1 (grown_trans ((Grown.refl _).alloc _ _) g2)
  clear hqb hn hc hk g1 g2
  go_wp2_with fail
  refine (indexOf_yes b 5 nameAt _ 0 _ (by omega) (by omega) HN.out (fun i hi => absurd hi (by omega)) (name_hit (by decide +kernel))).mono ?_
  rintro e w' ⟨rfl, rfl⟩
  go_wp2_with fail
  refine (indexOf_yes b 5 nameAt _ 2 _ (by omega) (by omega) HN.out (fun i hi => name_miss (by match i, hi with | 0, _ => decide +kernel | 1, _ => decide +kernel)) (name_hit (by decide +kernel))).mono ?_
  rintro e w' ⟨rfl, rfl⟩
  go_wp2_with fail
  refine (indexOf_yes b 5 nameAt _ 4 _ (by omega) (by omega) HN.out (fun i hi => name_miss (by match i, hi with | 0, _ => decide +kernel | 1, _ => decide +kernel | 2, _ => decide +kernel | 3, _ => decide +kernel)) (name_hit (by decide +kernel))).mono ?_
  rintro e w' ⟨rfl, rfl⟩
  have z1 := kUnheld_size
  have z2 := kHeld_size
  have z3 := kSettled_size
  have z4 := cSettled_size
  go_wp2_with fail
  refine (occurs_backlog q hq _).mono ?_
  rintro e w' ⟨rfl, rfl⟩
  go_wp2_with fail
  refine (suffix_backlog q hq _).mono ?_
  rintro e w' ⟨rfl, rfl⟩
  have ie := inner_eq
  have z5 := settledAt_size
  have i0 : ∀ w, (Instr.index 9 (.string cSettled) (.int .i64 0)).run Trym.prog w = .ok (.int .u8 40) w := fun _ => by kernel_rfl
  have i35 : ∀ w, (Instr.index 9 (.string cSettled) (.int .i64 35)).run Trym.prog w = .ok (.int .u8 41) w := fun _ => by kernel_rfl
  go_wp2_with fail
  refine (where_cleanup q hq _).mono ?_
  rintro e w' ⟨rfl, rfl⟩
  go_wp2_with fail
  refine (order_cleanup q hq _).mono ?_
  rintro e w' ⟨rfl, rfl⟩
  go_wp2
  go_ret
  exact ⟨rfl, G.out⟩

theorem law_any (q o : ByteArray) (hq : q.size ≤ maxLen) (ho : o.size ≤ maxLen) (w : World) :
    Calls Trym.prog 6 #[.string q, .string o] w fun e w' => e = .returned (.bool true) ∧ Grown w w' := by
  by_cases h : q.size + o.size ≤ 1048576
  · by_cases h2 : q.size ≤ 4096 ∧ o.size ≤ 4096
    · exact law_main q o h2.1 h2.2 w
    · exact law_wide q o h h2 w
  · exact law_long q o hq ho h w

end Go.Proofs.Qxb6604059aMods
