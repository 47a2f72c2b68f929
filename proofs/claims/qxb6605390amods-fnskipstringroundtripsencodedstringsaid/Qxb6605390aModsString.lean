/-
  The contracts of skipString (24), ZZskipString (14), the length bound (15); zzB1Clone and zzB1AppendEscaped at whatever slice.
-/
import Derived.Test.Qxb6605390aModsEsc
namespace Go.Proofs.Qxb6605390aMods
open Go.RowKit

theorem scan_cases {L : List Int} {k : Nat} (h : scan L = some k) :
    ∃ c r, L = c :: r ∧ ((c = 34 ∧ k = 1) ∨ (c = 92 ∧ ∃ d r' k2, r = d :: r' ∧ scan r' = some k2 ∧ k = k2 + 2) ∨ (c ≠ 34 ∧ c ≠ 92 ∧ ∃ k2, scan r = some k2 ∧ k = k2 + 1)) := by
  match L, h with
  | [], h => simp [scan] at h
  | [c], h =>
    by_cases h1 : c = 34
    · simp [scan, h1] at h
      exact ⟨c, [], rfl, .inl ⟨h1, h.symm⟩⟩
    · simp [scan, h1] at h
  | c :: d :: r, h =>
    by_cases h1 : c = 34
    · simp [scan, h1] at h
      exact ⟨c, d :: r, rfl, .inl ⟨h1, h.symm⟩⟩
    · by_cases h2 : c = 92
      · simp only [scan, h2, if_true] at h
        rw [if_neg (by decide)] at h
        obtain ⟨k2, hk, e⟩ := Option.map_eq_some_iff.1 h
        exact ⟨c, d :: r, rfl, .inr (.inl ⟨h2, d, r, k2, rfl, hk, e.symm⟩)⟩
      · simp only [scan, h1, h2, if_false] at h
        obtain ⟨k2, hk, e⟩ := Option.map_eq_some_iff.1 h
        exact ⟨c, d :: r, rfl, .inr (.inr ⟨h1, h2, k2, hk, e.symm⟩)⟩

theorem drop_head {Y : List Int} {p : Nat} {c : Int} {r : List Int} (h : Y.drop p = c :: r) : p < Y.length ∧ Y.getD p 0 = c ∧ Y.drop (p + 1) = r := by
  have hp : p < Y.length := by
    rcases Nat.lt_or_ge p Y.length with h1 | h1
    · exact h1
    · rw [List.drop_of_length_le h1] at h; cases h
  rw [List.drop_eq_getElem_cons hp] at h
  injection h with h1 h2
  exact ⟨hp, by rw [List.getD_eq_getElem?_getD, List.getElem?_eq_getElem hp, Option.getD_some, h1], h2⟩

theorem ret_int {k : IntKind} {a b : Int} (h : a = b) : Ending.returned (.int k a) = .returned (.int k b) := by rw [h]

set_option maxHeartbeats 1000000 in
theorem skipString_any (g n cap : Nat) (Y : List Int) (i k : Nat) (w : World) (EN : Hid (n = Y.length)) (hn : n ≤ 3000000) (hi : i < n) (HC : Hid (∀ j, j < n → w.cell? ⟨g, j, none⟩ = some (.int .u8 (Y.getD j 0)))) (HS : Hid (scan (Y.drop (i + 1)) = some k)) :
    Calls Trym.prog 24 #[.slice (some ⟨g, 0, none⟩) n cap, .int .i64 (i : Int)] w fun e w' => e = .returned (.int .i64 ((i + 1 + k : Nat) : Int)) ∧ w' = w := by
  go_enter Trym.func24, Trym.ntmps24
  go_wp2
  go_loop [1] (fun x => ∃ p q : Nat, x = .int .i64 p ∧ p ≤ n ∧ Hid (p + q = i + 1 + k) ∧ Hid (scan (Y.drop p) = some q)) (fun x => n - (intOf x).toNat)
  case atStart => exact ⟨i + 1, k, by go_num, by omega, (rfl : _ = _), HS⟩
  case round =>
    obtain ⟨p, q, rfl, hp, HQ, HP⟩ := hrel
    obtain ⟨c, r, hd, hcase⟩ := scan_cases HP.out
    obtain ⟨hpl, hpc, hpr⟩ := drop_head hd
    have hpn : p < n := by rw [EN.out]; exact hpl
    have hcp : w.cell? ⟨g, p, none⟩ = some (.int .u8 c) := by rw [HC.out p hpn, hpc]
    have HR : Hid (Y.drop (p + 1) = r) := hpr
    clear hd hpc hpr hpl HP
    rcases hcase with ⟨rfl, hq⟩ | ⟨rfl, d, r', k2, hr, hs2, hq⟩ | ⟨h34, h92, k2, hs2, hq⟩
    · have HK : Hid (p + 1 = i + 1 + k) := (by have := HQ.out; omega : p + 1 = i + 1 + k)
      clear hq
      go_wp2
      go_ret
      exact ⟨ret_int (by have := HK.out; omega), rfl⟩
    · obtain ⟨hp1, _, hp2⟩ := drop_head (HR.out.trans hr)
      have HK : Hid (p + 2 + k2 = i + 1 + k) := (by have := HQ.out; omega : p + 2 + k2 = i + 1 + k)
      have HT : Hid (scan (Y.drop (p + 2)) = some k2) := (by rw [hp2]; exact hs2 : scan (Y.drop (p + 2)) = some k2)
      have hp1n : p + 1 < n := by rw [EN.out]; exact hp1
      clear hq hr hs2 hp1 hp2
      go_wp2
      go_round
      case rel => exact ⟨p + 2, k2, by go_num, by omega, HK, HT⟩
      case measure => simp [intOf]; omega
    · have HK : Hid (p + 1 + k2 = i + 1 + k) := (by have := HQ.out; omega : p + 1 + k2 = i + 1 + k)
      have HT : Hid (scan (Y.drop (p + 1)) = some k2) := (by rw [HR.out]; exact hs2 : scan (Y.drop (p + 1)) = some k2)
      have e34 : (c != 34) = true := by simpa using h34
      have e92 : (c == 92) = false := by simpa using h92
      clear hq hs2 h34 h92
      go_wp2
      go_round
      case rel => exact ⟨p + 1, k2, by go_num, by omega, HK, HT⟩
      case measure => simp [intOf]; omega

theorem zzSkipString_any (g n cap : Nat) (Y : List Int) (i k : Nat) (w : World) (EN : Hid (n = Y.length)) (hn : n ≤ 3000000) (hi : i < n) (HC : Hid (∀ j, j < n → w.cell? ⟨g, j, none⟩ = some (.int .u8 (Y.getD j 0)))) (HS : Hid (scan (Y.drop (i + 1)) = some k)) :
    Calls Trym.prog 14 #[.slice (some ⟨g, 0, none⟩) n cap, .int .i64 (i : Int)] w fun e w' => e = .returned (.int .i64 ((i + 1 + k : Nat) : Int)) ∧ w' = w := by
  go_enter Trym.func14, Trym.ntmps14
  go_wp2_with fail
  refine (skipString_any g n cap Y i k _ EN hn hi HC HS).mono ?_
  rintro e w' ⟨rfl, rfl⟩
  go_wp2
  go_ret
  exact ⟨rfl, rfl⟩

set_option maxHeartbeats 400000 in
theorem bound_yes (a b c : Option Addr) (n1 c1 n2 c2 n3 c3 : Nat) (w : World) (h : n1 + n2 + n3 ≤ 1048576) :
    Calls Trym.prog 15 #[.slice a n1 c1, .slice b n2 c2, .slice c n3 c3] w fun e w' => e = .returned (.bool true) ∧ w' = w := by
  go_enter Trym.func15, Trym.ntmps15
  go_wp2
  go_ret
  exact ⟨rfl, rfl⟩

set_option maxHeartbeats 400000 in
theorem bound_no (a b c : Option Addr) (n1 c1 n2 c2 n3 c3 : Nat) (w : World) (h1 : n1 ≤ maxLen) (h2 : n2 ≤ maxLen) (h3 : n3 ≤ maxLen) (h : ¬ n1 + n2 + n3 ≤ 1048576) :
    Calls Trym.prog 15 #[.slice a n1 c1, .slice b n2 c2, .slice c n3 c3] w fun e w' => e = .returned (.bool false) ∧ w' = w := by
  unfold maxLen at h1 h2 h3
  go_enter Trym.func15, Trym.ntmps15
  go_wp2
  all_goals
    go_ret
    exact ⟨rfl, rfl⟩

/-- A SLICE OF BYTES THAT CAME IN: nil, or its elements 'Z' lie at an address -/
def Row (w : World) (a : Option Addr) (Z : List Int) : Prop :=
  (a = none ∧ Z = []) ∨ ∃ x, a = some x ∧ ∀ j, j < Z.length → w.cell? (x.add j) = some (.int .u8 (Z.getD j 0))

theorem row_below {w w' : World} {a : Option Addr} {Z : List Int} (h : Row w a Z) (hb : Below w.heap.size w w') : Row w' a Z := by
  rcases h with h | ⟨x, hx, hc⟩
  · exact .inl h
  · refine .inr ⟨x, hx, fun j hj => ?_⟩
    have h1 := hc j hj
    exact (hb.cell (World.block_lt_of_cell? w _ h1)).trans h1

/-- ITS CLONE: nil, or a block of its own -/
def Cloned (w : World) (ao : Option Addr) (Z : List Int) : Prop :=
  (ao = none ∧ Z = []) ∨ ∃ B, ao = some ⟨B, 0, none⟩ ∧ w.rowIs B 5 Z.length (fun j => .int .u8 (Z.getD j 0))

theorem cloned_below {w w' : World} {ao : Option Addr} {Z : List Int} (h : Cloned w ao Z) {B : Nat} (hB : w.heap.size ≤ B) (hb : Below B w w') : Cloned w' ao Z := by
  rcases h with h | ⟨b, hx, hr⟩
  · exact .inl h
  · exact .inr ⟨b, hx, hr.of_block (hb.block b (Nat.lt_of_lt_of_le hr.lt hB))⟩

theorem add_mid (b o j : Nat) : (⟨b, o, none⟩ : Addr).add j = ⟨b, o + j, none⟩ := by unfold Addr.add; split <;> simp_all

/-- what is appended off a clone -/
theorem cloned_cells {w : World} {ao : Option Addr} {Z : List Int} (h : Cloned w ao Z) : ∀ ad, ao = some ad → ∀ j u, (Z.map (Value.int .u8))[j]? = some u → w.cell? (ad.add j) = some u := by
  intro ad had j u hu
  rcases h with ⟨h, _⟩ | ⟨b, hx, hr⟩
  · rw [h] at had; cases had
  · rw [hx] at had
    cases had
    rw [add_mid, Nat.zero_add]
    have hj : j < Z.length := by
      have := (List.getElem?_eq_some_iff.1 hu).1
      simpa using this
    rw [hr.cell hj, ← hu, List.getElem?_map, List.getD_eq_getElem?_getD, List.getElem?_eq_getElem hj]
    rfl

theorem cloned_none {w : World} {ao : Option Addr} {Z : List Int} (h : Cloned w ao Z) {n : Nat} (hn : n = Z.length) : ao = none → n = 0 ∧ n = 0 := by
  intro ha
  rcases h with ⟨_, h⟩ | ⟨b, hx, _⟩
  · rw [h] at hn; exact ⟨hn, hn⟩
  · rw [hx] at ha; cases ha

theorem clone_any (a : Option Addr) (n cap : Nat) (Z : List Int) (w : World) (hn : n = Z.length) (hlen : n ≤ 1048576) (h : Row w a Z) (hnil : a = none → cap = 0) :
    Calls Trym.prog 9 #[.slice a n cap] w fun e w' => ∃ ao, e = .returned (.slice ao n n) ∧ Cloned w' ao Z ∧ Below w.heap.size w w' := by
  rcases h with ⟨rfl, rfl⟩ | ⟨x, rfl, hc⟩
  · obtain rfl := hnil rfl
    subst hn
    exact (clone_nil w).mono fun e w' ⟨he, hw⟩ => ⟨none, he, .inl ⟨rfl, rfl⟩, by rw [hw]; exact Below.refl _ _⟩
  · by_cases h0 : n = 0
    · subst h0
      have hZ : Z = [] := List.eq_nil_of_length_eq_zero hn.symm
      subst hZ
      exact (clone_zero x cap _ w).mono fun e w' ⟨he, hr, hb⟩ => ⟨_, he, .inr ⟨_, rfl, hr⟩, hb⟩
    · obtain ⟨b, off, spot⟩ := x
      have hc0 := hc 0 (by omega)
      have hspot : spot = none := by simpa [Addr.add] using World.cell?_spot hc0
      subst hspot
      have hb : b < w.heap.size := by simpa [Addr.add] using World.block_lt_of_cell? w _ hc0
      have hcs : ∀ j, j < n → w.cell? ⟨b, off + j, none⟩ = some (.int .u8 (Z.getD j 0)) := fun j hj => by
        rw [← add_mid]; exact hc j (by omega)
      refine (clone_some b off n cap Z w hlen hb hcs).mono fun e w' ⟨he, hr, hbel⟩ => ⟨_, he, .inr ⟨_, rfl, ?_⟩, hbel⟩
      rw [← hn]
      exact hr

theorem escape_nil (g n K : Nat) (w : World) :
    Calls Trym.prog 16 #[.slice (some ⟨g, 0, none⟩) n K, .slice none 0 0] w fun e w' => e = .returned (.slice (some ⟨g, 0, none⟩) n K) ∧ w' = w := by
  go_enter Trym.func16, Trym.ntmps16
  go_wp2
  refine wp_loop_rounds 1 ?_
  rw [rounds_succ]
  go_wp2
  go_ret
  exact ⟨rfl, rfl⟩

theorem escape_any (g n m K : Nat) (X Z : List Int) (ao : Option Addr) (w : World) (hown : Buf w g n K X) (hgw : g < w.heap.size) (hm : m = Z.length) (hroom : n + 6 * m ≤ K) (hm2 : m ≤ 65536)
    (hcl : Cloned w ao Z) (hlow : ∀ ad, ao = some ad → ad.block < g) (hz : ∀ j, 0 ≤ Z.getD j 0 ∧ Z.getD j 0 ≤ 255) :
    Calls Trym.prog 16 #[.slice (some ⟨g, 0, none⟩) n K, .slice ao m m] w fun e w' => ∃ (N : Nat) (E : List Int), e = .returned (.slice (some ⟨g, 0, none⟩) N K) ∧ N = n + E.length ∧ N ≤ n + 6 * m ∧ Neutral E ∧ Buf w' g N K (X ++ E) ∧ Below g w w' := by
  rcases hcl with ⟨rfl, rfl⟩ | ⟨B, rfl, hr⟩
  · subst hm
    exact (escape_nil g n K w).mono fun e w' ⟨he, hw⟩ => ⟨n, [], he, rfl, Nat.le_refl _, neutral_nil, by rw [List.append_nil, hw]; exact hown, by rw [hw]; exact Below.refl _ _⟩
  · exact escape_some g B n m K X (fun j => Z.getD j 0) w hown (hlow _ rfl) hgw hroom (fun j hj => hr.cell (by omega)) hz hm2

end Go.Proofs.Qxb6605390aMods
