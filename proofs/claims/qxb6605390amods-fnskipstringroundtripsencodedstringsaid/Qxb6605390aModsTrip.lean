/-
  The walk of the law FnSkipStringRoundTripsEncodedString (5).
-/
import Derived.Test.Qxb6605390aModsString
namespace Go.Proofs.Qxb6605390aMods
open Go.RowKit

theorem trip_long (a b c : Option Addr) (n1 c1 n2 c2 n3 c3 : Nat) (w : World) (h1 : n1 ≤ maxLen) (h2 : n2 ≤ maxLen) (h3 : n3 ≤ maxLen) (h : ¬ n1 + n2 + n3 ≤ 1048576) :
    Calls Trym.prog 5 #[.slice a n1 c1, .slice b n2 c2, .slice c n3 c3] w fun e w' => e = .returned (.bool true) ∧ Below w.heap.size w w' := by
  go_enter Trym.func5, Trym.ntmps5
  go_wp2_with fail
  refine (bound_no _ _ _ _ _ _ _ _ _ _ h1 h2 h3 h).mono ?_
  rintro e w' ⟨rfl, rfl⟩
  go_wp2
  go_ret
  exact ⟨rfl, Below.refl _ _⟩

theorem trip_wide (a b c : Option Addr) (n1 c1 n2 c2 n3 c3 : Nat) (w : World) (h : n1 + n2 + n3 ≤ 1048576) (hw : 262144 < n1 ∨ (n1 ≤ 262144 ∧ 65536 < n2) ∨ (n1 ≤ 262144 ∧ n2 ≤ 65536 ∧ 262144 < n3)) :
    Calls Trym.prog 5 #[.slice a n1 c1, .slice b n2 c2, .slice c n3 c3] w fun e w' => e = .returned (.bool true) ∧ Below w.heap.size w w' := by
  rcases hw with hw | ⟨hw1, hw2⟩ | ⟨hw1, hw2, hw3⟩
  all_goals
    go_enter Trym.func5, Trym.ntmps5
    go_wp2_with fail
    refine (bound_yes _ _ _ _ _ _ _ _ _ _ h).mono ?_
    rintro e w' ⟨rfl, rfl⟩
    go_wp2
    go_ret
    exact ⟨rfl, Below.refl _ _⟩

theorem below_make {w w' : World} (h : w.grownBy w' none) : Below w.heap.size w w' := (Below.refl _ _).grown h (Nat.le_refl _) (fun k hk => by cases hk)
theorem below_app {w w1 w2 : World} {g : Nat} (hb : Below g w w1) (hg : g < w1.heap.size) (h : w1.grownBy w2 (some g)) : Below g w w2 := hb.grown h (by omega) (fun k hk => by cases hk; exact Nat.le_refl _)
theorem below_app1 {w w1 w2 : World} {g : Nat} {o : Obj} (hb : Below g w w1) (hg : g < w1.heap.size) (h : (w1.alloc o).grownBy w2 (some g)) : Below g w w2 := below_more hb (by omega) h

theorem zzSkipString_to (g n cap : Nat) (Y : List Int) (i k r : Nat) (w : World) (hr : i + 1 + k = r) (EN : n = Y.length) (hn : n ≤ 3000000) (hi : i < n) (hown : w.ownsRow g 5 1 (.slice (some ⟨g, 0, none⟩) n cap) n (Y.map (Value.int .u8))) (HS : scan (Y.drop (i + 1)) = some k) :
    Calls Trym.prog 14 #[.slice (some ⟨g, 0, none⟩) n cap, .int .i64 (i : Int)] w fun e w' => e = .returned (.int .i64 (r : Int)) ∧ w' = w := by
  subst hr
  refine zzSkipString_any g n cap Y i k w EN hn hi ?_ HS
  intro j hj
  have hj' : j < Y.length := by omega
  have := hown.cells (g := g) rfl j (.int .u8 (Y.getD j 0)) (by rw [List.getElem?_map, List.getD_eq_getElem?_getD, List.getElem?_eq_getElem hj']; rfl)
  rwa [add_mid, Nat.zero_add] at this

/-- THE PLAIN LAW: the loop goes over the escaped bytes and stops past the closing quote -/
theorem scan_trip (P E T : List Int) (hE : Neutral E) : scan ((P ++ [34] ++ E ++ [34] ++ T).drop (P.length + 1)) = some (E.length + 1) := by
  have : (P ++ [34] ++ E ++ [34] ++ T).drop (P.length + 1) = E ++ (34 :: T) := by
    rw [show P ++ [34] ++ E ++ [34] ++ T = (P ++ [34]) ++ (E ++ (34 :: T)) by simp]
    rw [List.drop_left' (by simp)]
  rw [this, hE]
  cases T <;> simp [scan] <;> omega

set_option maxHeartbeats 1000000 in
theorem trip_main (a b c : Option Addr) (n1 c1 n2 c2 n3 c3 : Nat) (P S T : List Int) (w : World) (e1 : Hid (n1 = P.length)) (e2 : Hid (n2 = S.length)) (e3 : Hid (n3 = T.length)) (h1 : n1 ≤ 262144) (h2 : n2 ≤ 65536) (h3 : n3 ≤ 262144)
    (r1 : Row w a P) (r2 : Row w b S) (r3 : Row w c T) (k1 : Hid (a = none → c1 = 0)) (k2 : Hid (b = none → c2 = 0)) (k3 : Hid (c = none → c3 = 0)) (hz : Hid (∀ j, 0 ≤ S.getD j 0 ∧ S.getD j 0 ≤ 255)) :
    Calls Trym.prog 5 #[.slice a n1 c1, .slice b n2 c2, .slice c n3 c3] w fun e w' => e = .returned (.bool true) ∧ Below w.heap.size w w' := by
  obtain ⟨i0, hi, hz0, hz1, hz2⟩ := info_parts info5
  obtain ⟨K, hK1, hK2⟩ : ∃ K, n1 + 6 * n2 + 2 + n3 ≤ K ∧ K ≤ n1 + 6 * n2 + 2 + n3 := ⟨_, Nat.le_refl _, Nat.le_refl _⟩
  have R1 : Hid (Row w a P) := r1
  have R2 : Hid (Row w b S) := r2
  have R3 : Hid (Row w c T) := r3
  clear r1 r2 r3
  go_enter Trym.func5, Trym.ntmps5
  go_wp2_with fail
  refine (bound_yes _ _ _ _ _ _ _ _ _ _ (by omega)).mono ?_
  rintro e w' ⟨rfl, rfl⟩
  go_wp2_with fail
  refine (clone_any a n1 c1 P _ e1.out (by omega) R1.out k1.out).mono ?_
  rintro e w1 ⟨pa, rfl, q1, b1⟩
  have Q1 : Hid (Cloned w1 pa P) := q1
  clear q1
  go_wp2_with fail
  refine (clone_any b n2 c2 S _ e2.out (by omega) (row_below R2.out b1) k2.out).mono ?_
  rintro e w2 ⟨sa, rfl, q2, b2⟩
  have Q2 : Hid (Cloned w2 sa S) := q2
  clear q2
  have B2 := b1.trans (b2.mono b1.size)
  go_wp2_with fail
  refine (clone_any c n3 c3 T _ e3.out (by omega) (row_below R3.out B2) k3.out).mono ?_
  rintro e w3 ⟨ta, rfl, q3, b3⟩
  have Q3 : Hid (Cloned w3 ta T) := q3
  clear q3
  have B3 := B2.trans (b3.mono B2.size)
  have Q2' : Hid (Cloned w3 sa S) := cloned_below Q2.out (Nat.le_refl _) b3
  have Q1' : Hid (Cloned w3 pa P) := cloned_below (cloned_below Q1.out (Nat.le_refl _) b2) (Nat.le_refl _) b3
  clear b1 b2 b3 B2 R1 R2 R3 Q1 Q2 k1 k2 k3
  go_wp2_with (first
    | (at_make; refine wpList_make_own _ rfl _ _ 22 rfl w3.heap.size 5 i0 (.int .u8 0) 1 Trym.underlying22 hi hz0 hz1 .i64 .i64 _ K rfl rfl (by omega) (by rw [hz2]; omega) (by unfold maxLen; omega) (Nat.le_refl _) ?_; intro w4 hown4 hg4)
    | (at_builtin; refine wpList_append_fits_any _ rfl (.tmp 40) (.tmp 41) 22 rfl w3.heap.size 5 i0 1 Trym.underlying22 hi hz1 w3.heap.size 0 K [] rfl hown4 pa n1 n1 (P.map (Value.int .u8)) rfl (by rw [List.length_map, Nat.mul_one]; exact e1.out.symm) (cloned_none Q1'.out e1.out) (cloned_cells (cloned_below Q1'.out (Nat.le_refl _) (below_make hg4))) (ints_oneCell _ _) (by omega) ?_; intro w5 hown5 hg5; simp only [Nat.zero_add, List.nil_append] at hown5)
    | (at_builtin; refine wpList_append_fits _ rfl (.tmp 43) (.tmp 44) 22 rfl w3.heap.size 5 i0 1 Trym.underlying22 hi hz1 w3.heap.size n1 K (P.map (Value.int .u8)) rfl (hown5.alloc _) ⟨w5.heap.size, 0, none⟩ 1 1 ([34].map (Value.int .u8)) rfl rfl (news_cells w5 _ 5) (ints_oneCell _ _) (by omega) ?_; intro w6 hown6 hg6))
  have l4 := (hown4.lt w3.heap.size rfl).2
  have l5 := (hown5.lt w3.heap.size rfl).2
  have l6 := (hown6.lt w3.heap.size rfl).2
  have B6 : Below w3.heap.size w3 w6 := below_app1 (below_app (below_make hg4) l4 hg5) l5 hg6
  have hbuf : Buf w6 w3.heap.size (n1 + 1) K (P ++ [34]) := by unfold Buf; rw [List.map_append]; exact hown6
  have hlow : ∀ ad, sa = some ad → ad.block < w3.heap.size := by
    intro ad had
    rcases Q2'.out with ⟨h, _⟩ | ⟨B, hx, hr⟩
    · rw [h] at had; cases had
    · rw [hx] at had; cases had; exact hr.lt
  refine (escape_any w3.heap.size (n1 + 1) n2 K (P ++ [34]) S sa _ hbuf l6 e2.out (by omega) h2 (cloned_below Q2'.out (Nat.le_refl _) B6) hlow hz.out).mono ?_
  rintro e w7 ⟨N, E, rfl, hN, hN2, hE, hB7, b7⟩
  have HN : Hid (N = n1 + 1 + E.length) := hN
  have HE : Hid (Neutral E) := hE
  have l7 : w3.heap.size < w7.heap.size := Nat.lt_of_lt_of_le l6 b7.size
  have B7 := B6.trans b7
  have HB7 : Hid (Buf w7 w3.heap.size N K (P ++ [34] ++ E)) := hB7
  clear hN hE hB7 b7 B6 hbuf hlow hown4 hown5 hown6 hg4 hg5 hg6 l4 l5 l6 Q1' Q2' hz e2
  go_wp2_with (first
    | (at_builtin; refine wpList_append_fits _ rfl (.tmp 49) (.tmp 50) 22 rfl w3.heap.size 5 i0 1 Trym.underlying22 hi hz1 w3.heap.size N K ((P ++ [34] ++ E).map (Value.int .u8)) rfl (HB7.out.alloc _) ⟨w7.heap.size, 0, none⟩ 1 1 ([34].map (Value.int .u8)) rfl rfl (news_cells w7 _ 5) (ints_oneCell _ _) (by omega) ?_; intro w8 hown8 hg8)
    | (at_builtin; refine wpList_append_fits_any _ rfl (.tmp 54) (.tmp 55) 22 rfl w3.heap.size 5 i0 1 Trym.underlying22 hi hz1 w3.heap.size (N + 1) K _ rfl hown8 ta n3 n3 (T.map (Value.int .u8)) rfl (by rw [List.length_map, Nat.mul_one]; exact e3.out.symm) (cloned_none Q3.out e3.out) (cloned_cells (cloned_below Q3.out (Nat.le_refl _) (below_app1 B7 l7 hg8))) (ints_oneCell _ _) (by omega) ?_; intro w9 hown9 hg9))
  have B8 : Below w3.heap.size w3 w8 := below_app1 B7 l7 hg8
  have l8 := (hown8.lt w3.heap.size rfl).2
  have B9 : Below w3.heap.size w3 w9 := below_app B8 l8 hg9
  have BF : Hid (Below w'.heap.size w' w9) := B3.trans (B9.mono B3.size)
  have O9 : w9.ownsRow w3.heap.size 5 1 (.slice (some ⟨w3.heap.size, 0, none⟩) (N + 1 + n3) K) (N + 1 + n3) ((P ++ [34] ++ E ++ [34] ++ T).map (Value.int .u8)) := by
    rw [List.map_append, List.map_append (l₁ := P ++ [34] ++ E)]
    exact hown9
  have hlen : N + 1 + n3 = (P ++ [34] ++ E ++ [34] ++ T).length := by
    have := HN.out; have := e1.out; have := e3.out
    simp only [List.length_append, List.length_cons, List.length_nil]
    omega
  have hsc : scan ((P ++ [34] ++ E ++ [34] ++ T).drop (n1 + 1)) = some (E.length + 1) := by rw [e1.out]; exact scan_trip P E T HE.out
  refine (zzSkipString_to w3.heap.size (N + 1 + n3) K (P ++ [34] ++ E ++ [34] ++ T) n1 (E.length + 1) (N + 1) _ (by have := HN.out; omega) hlen (by omega) (by have := HN.out; omega) O9 hsc).mono ?_
  rintro e w10 ⟨rfl, rfl⟩
  clear hsc hlen O9 B9 B8 hown9 hown8 hg9 hg8
  go_wp2
  go_ret
  exact ⟨rfl, BF.out⟩

end Go.Proofs.Qxb6605390aMods
