/-
  The contracts of zzB1Clone (9), zzB1IsSpace (11), skipSpace (23), ZZskipSpace (10), the length bound (8).
-/
import Derived.Test.Qxb6605390aModsRows
import Derived.WalkKit
import Derived.WalkSpells
import Derived.WalkLawsBesides
import Derived.ProofKit
import Derived.LoopTactic
import Derived.Deep.OwnRows
import Derived.Lib.SliceRun
namespace Go.Proofs.Qxb6605390aMods
open Go.RowKit

theorem info5 : (Trym.prog.info? 5).map (fun i => (i.zero, i.size, i.bytes)) = some (some (.int .u8 0), 1, 1) := by kernel_rfl

theorem clone_nil (w : World) :
    Calls Trym.prog 9 #[.slice none 0 0] w fun e w' => e = .returned (.slice none 0 0) ∧ w' = w := by
  have hnil := fun (w : World) (a : Option Addr) (l c : Nat) => Lib.run_eql_slice_nil (P := Trym.prog) w 22 5 a l c 0 0 Trym.underlying22
  go_enter Trym.func9, Trym.ntmps9
  go_wp2
  go_ret
  exact ⟨rfl, rfl⟩

set_option maxHeartbeats 400000 in
theorem clone_zero (x : Addr) (cap : Nat) (f : Nat → Value) (w : World) :
    Calls Trym.prog 9 #[.slice (some x) 0 cap] w fun e w' => e = .returned (.slice (some ⟨w.heap.size, 0, none⟩) 0 0) ∧ w'.rowIs w.heap.size 5 0 f ∧ Below w.heap.size w w' := by
  have hnil := fun (w : World) (a : Option Addr) (l c : Nat) => Lib.run_eql_slice_nil (P := Trym.prog) w 22 5 a l c 0 0 Trym.underlying22
  have hmk : ∀ w, (Instr.makeSlice 22 (.int .i64 0) (.int .i64 0)).run Trym.prog w = .ok (.slice (some ⟨w.heap.size, 0, none⟩) 0 0) (w.alloc (.cells (madeCells #[.int .u8 0] 0) 5)) := fun w => run_make_row' (P := Trym.prog) 22 5 (.int .u8 0) 1 Trym.underlying22 info5 rfl .i64 .i64 0 (by omega) (by omega) w
  go_enter Trym.func9, Trym.ntmps9
  go_wp2
  refine wp_loop_rounds 1 ?_
  rw [rounds_succ]
  go_wp2
  go_ret
  exact ⟨rfl, (World.rowIs_made w (.int .u8 0) 0 5).congr (fun i hi => absurd hi (Nat.not_lt_zero i)), (Below.refl _ _).alloc (Nat.le_refl _) _⟩

set_option maxHeartbeats 400000 in
theorem clone_some (b off len cap : Nat) (zs : List Int) (w : World) (hlen : len ≤ 1048576) (hb : b < w.heap.size) (hc : ∀ j, j < len → w.cell? ⟨b, off + j, none⟩ = some (.int .u8 (zs.getD j 0))) :
    Calls Trym.prog 9 #[.slice (some ⟨b, off, none⟩) len cap] w fun e w' => e = .returned (.slice (some ⟨w.heap.size, 0, none⟩) len len) ∧ w'.rowIs w.heap.size 5 len (fun j => .int .u8 (zs.getD j 0)) ∧ Below w.heap.size w w' := by
  have hnil := fun (w : World) (a : Option Addr) (l c : Nat) => Lib.run_eql_slice_nil (P := Trym.prog) w 22 5 a l c 0 0 Trym.underlying22
  have hmk : ∀ w, (Instr.makeSlice 22 (.int .i64 (len : Int)) (.int .i64 (len : Int))).run Trym.prog w = .ok (.slice (some ⟨w.heap.size, 0, none⟩) len len) (w.alloc (.cells (madeCells #[.int .u8 0] len) 5)) := fun w => run_make_row' (P := Trym.prog) 22 5 (.int .u8 0) 1 Trym.underlying22 info5 rfl .i64 .i64 len (by omega) (by omega) w
  go_enter Trym.func9, Trym.ntmps9
  go_wp2
  go_loopw [4] (fun i wr => ∃ j : Nat, j ≤ len ∧ i = .int .i64 j ∧ wr.rowIs w.heap.size 5 len (fun q => .int .u8 (if q < j then zs.getD q 0 else 0)) ∧ Below w.heap.size w wr) (fun i _ => len - (intOf i).toNat)
  case atStart => exact ⟨0, Nat.zero_le _, rfl, (World.rowIs_made w (.int .u8 0) len 5).congr (fun i _ => by simp), (Below.refl _ _).alloc (Nat.le_refl _) _⟩
  case round =>
    obtain ⟨j, hj, rfl, hrow, hbel⟩ := hrel
    by_cases hlt : j < len
    · have hcj : wr.cell? ⟨b, off + j, none⟩ = some (.int .u8 (zs.getD j 0)) := (hbel.cell hb).trans (hc j hlt)
      have hrc := hrow.cell hlt
      have hrf := hrow.frozen j
      have HR : Hid (wr.rowIs w.heap.size 5 len (fun q => .int .u8 (if q < j then zs.getD q 0 else 0))) := hrow
      clear hc hmk hnil hrow
      go_wp2
      go_roundw
      case rel =>
        refine ⟨j + 1, by omega, by go_num, (HR.out.set j (.int .u8 (zs[j]?.getD 0))).congr (fun q hq => ?_), hbel.setCell (Nat.le_refl _) _⟩
        by_cases e : q = j
        · subst e
          simp
        · rw [if_neg e]
          by_cases h : q < j
          · rw [if_pos h, if_pos (by omega)]
          · rw [if_neg h, if_neg (by omega)]
      case measure => simp [intOf]; omega
    · clear hc hmk hnil
      go_wp2
      go_ret
      exact ⟨rfl, hrow.congr (fun q hq => by rw [if_pos (by omega)]), hbel⟩

def isSp (c : Int) : Bool := c == 32 || c == 9 || c == 10 || c == 13

theorem isSp_cases (c : Int) : (isSp c = true ∧ (c = 32 ∨ c = 9 ∨ c = 10 ∨ c = 13)) ∨ (isSp c = false ∧ (c == 32) = false ∧ (c == 9) = false ∧ (c == 10) = false ∧ (c == 13) = false) := by
  unfold isSp; simp; omega

set_option maxHeartbeats 400000 in
theorem isSpace_any (c : Int) (w : World) (b : Bool) (hb : isSp c = b) :
    Calls Trym.prog 11 #[.int .u8 c] w fun e w' => e = .returned (.bool b) ∧ w' = w := by
  subst hb
  rcases isSp_cases c with ⟨h, hc⟩ | ⟨h, h1, h2, h3, h4⟩
  · rw [h]; clear h
    rcases hc with rfl | rfl | rfl | rfl
    all_goals
      go_enter Trym.func11, Trym.ntmps11
      go_wp2
      go_ret
      exact ⟨rfl, rfl⟩
  · rw [h]; clear h
    go_enter Trym.func11, Trym.ntmps11
    go_wp2
    go_ret
    exact ⟨rfl, rfl⟩

/-- where skipSpace lands: the first place from i on that is no space, or the end -/
def Lands (f : Nat → Int) (n i j : Nat) : Prop := i ≤ j ∧ j ≤ n ∧ (∀ k, i ≤ k → k < j → isSp (f k) = true) ∧ (j < n → isSp (f j) = false)

set_option maxHeartbeats 1000000 in
theorem skipSpace_in (g n cap : Nat) (f : Nat → Int) (i : Nat) (w : World) (hn : n ≤ 1048576) (hi : i ≤ n) (HC : Hid (∀ k, k < n → w.cell? ⟨g, k, none⟩ = some (.int .u8 (f k)))) :
    Calls Trym.prog 23 #[.slice (some ⟨g, 0, none⟩) n cap, .int .i64 (i : Int)] w fun e w' => (∃ j : Nat, e = .returned (.int .i64 (j : Int)) ∧ Lands f n i j) ∧ w' = w := by
  go_enter Trym.func23, Trym.ntmps23
  go_wp2
  go_loop [1] (fun x => ∃ j : Nat, x = .int .i64 j ∧ i ≤ j ∧ j ≤ n ∧ Hid (∀ k, i ≤ k → k < j → isSp (f k) = true)) (fun x => n - (intOf x).toNat)
  case atStart => exact ⟨i, rfl, Nat.le_refl _, hi, fun k h1 h2 => absurd h1 (by omega)⟩
  case round =>
    obtain ⟨j, rfl, hij, hjn, HS⟩ := hrel
    by_cases hlt : j < n
    · have hcj := HC.out j hlt
      obtain ⟨c, hcv⟩ : ∃ c, c = f j := ⟨_, rfl⟩
      rw [← hcv] at hcj
      rcases isSp_cases c with ⟨h, hc⟩ | ⟨h, h1, h2, h3, h4⟩
      · have HX : Hid (∀ k, i ≤ k → k < j + 1 → isSp (f k) = true) := fun k hk1 hk2 => by
          by_cases e : k = j
          · rw [e, ← hcv]; exact h
          · exact HS.out k hk1 (by omega)
        clear h hcv HS
        rcases hc with rfl | rfl | rfl | rfl
        all_goals
          go_wp2
          go_round
          case rel => exact ⟨j + 1, by go_num, by omega, by omega, HX⟩
          case measure => simp [intOf]; omega
      · have HX : Hid (j < n → isSp (f j) = false) := fun _ => by rw [← hcv]; exact h
        clear h hcv
        go_wp2
        go_ret
        exact ⟨⟨j, rfl, hij, hjn, HS.out, HX.out⟩, rfl⟩
    · go_wp2
      go_ret
      exact ⟨⟨j, rfl, hij, hjn, HS.out, fun h => absurd h hlt⟩, rfl⟩

theorem skipSpace_past (a : Option Addr) (n cap : Nat) (i : Int) (w : World) (hi : (n : Int) ≤ i) :
    Calls Trym.prog 23 #[.slice a n cap, .int .i64 i] w fun e w' => e = .returned (.int .i64 i) ∧ w' = w := by
  go_enter Trym.func23, Trym.ntmps23
  go_wp2
  refine wp_loop_rounds 1 ?_
  rw [rounds_succ]
  go_wp2
  go_ret
  exact ⟨rfl, rfl⟩

theorem zzSkipSpace_in (g n cap : Nat) (f : Nat → Int) (i : Nat) (w : World) (hn : n ≤ 1048576) (hi : i ≤ n) (HC : Hid (∀ k, k < n → w.cell? ⟨g, k, none⟩ = some (.int .u8 (f k)))) :
    Calls Trym.prog 10 #[.slice (some ⟨g, 0, none⟩) n cap, .int .i64 (i : Int)] w fun e w' => (∃ j : Nat, e = .returned (.int .i64 (j : Int)) ∧ Lands f n i j) ∧ w' = w := by
  go_enter Trym.func10, Trym.ntmps10
  go_wp2_with fail
  refine (skipSpace_in g n cap f i _ hn hi HC).mono ?_
  rintro e w' ⟨⟨j, rfl, hl⟩, rfl⟩
  have HL : Hid (Lands f n i j) := hl
  clear hl
  go_wp2
  go_ret
  exact ⟨⟨j, rfl, HL.out⟩, rfl⟩

theorem zzSkipSpace_past (a : Option Addr) (n cap : Nat) (i : Int) (w : World) (hi : (n : Int) ≤ i) :
    Calls Trym.prog 10 #[.slice a n cap, .int .i64 i] w fun e w' => e = .returned (.int .i64 i) ∧ w' = w := by
  go_enter Trym.func10, Trym.ntmps10
  go_wp2_with fail
  refine (skipSpace_past a n cap i _ hi).mono ?_
  rintro e w' ⟨rfl, rfl⟩
  go_wp2
  go_ret
  exact ⟨rfl, rfl⟩

theorem bytes_yes (a : Option Addr) (n cap : Nat) (i : Int) (w : World) (h : n ≤ 1048576) :
    Calls Trym.prog 8 #[.slice a n cap, .int .i64 i] w fun e w' => e = .returned (.bool true) ∧ w' = w := by
  go_enter Trym.func8, Trym.ntmps8
  go_wp2
  go_ret
  exact ⟨rfl, rfl⟩

theorem bytes_no (a : Option Addr) (n cap : Nat) (i : Int) (w : World) (hm : n ≤ maxLen) (h : ¬ n ≤ 1048576) :
    Calls Trym.prog 8 #[.slice a n cap, .int .i64 i] w fun e w' => e = .returned (.bool false) ∧ w' = w := by
  unfold maxLen at hm
  go_enter Trym.func8, Trym.ntmps8
  go_wp2
  all_goals
    go_ret
    exact ⟨rfl, rfl⟩

end Go.Proofs.Qxb6605390aMods
