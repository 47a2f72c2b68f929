/-
  The contract of zzB1AppendEscaped (16).
-/
import Derived.Test.Qxb6605390aModsClone
import Derived.OwnWalk
import Derived.Deep.RegionLaw
namespace Go.Proofs.Qxb6605390aMods
open Go.RowKit

theorem step_append_fits {P : Program} {ops : Array Oper} {o : Oper} {a : Act} {w : World} {K : Act → World → Prop} {Q : Exit → Act → World → Prop} {E : Prop}
    (hg : o.guard = none) (s x : Operand) (t : TypeId) (hop : o.op = Op.call { callee := Callee.builtin Builtin.append, args := #[s, x], argTypes := #[t, t] })
    (base : Nat) (e : TypeId) (i : TypeInfo) (size : Nat) (h1 : P.underlying t = some (.slice e)) (h2 : P.info? e = some i) (h4 : i.size = size)
    (g k cap : Nat) (xs : List Value) (hs : a.eval s = .slice (some ⟨g, 0, none⟩) k cap) (hown : w.ownsRow base e size (.slice (some ⟨g, 0, none⟩) k cap) k xs) (ad : Addr) (m c : Nat) (news : List Value) (hx : a.eval x = .slice (some ad) m c) (hn : news.length = m * size)
    (hc : ∀ j u, news[j]? = some u → w.cell? (ad.add j) = some u) (h1c : ∀ u ∈ news, u.oneCell' = true) (b1 : k + m ≤ cap)
    (hK : ∀ w', w'.ownsRow base e size (.slice (some ⟨g, 0, none⟩) (k + m) cap) (k + m) (xs ++ news) → w.grownBy w' (some g) → K (a.put o.dst (.slice (some ⟨g, 0, none⟩) (k + m) cap)) w') :
    if Region.wanted o (yielded ops a.tmps) = true then Oper.wp P o a w K Q else E := by
  have hw : Region.wanted o (yielded ops a.tmps) = true := by simp [Region.wanted, hg]
  rw [if_pos hw]
  obtain ⟨w', hrun, r1, r2⟩ := run_append_fits (P := P) w base t o.type e i size h1 h2 h4 g k cap xs hown ad m c news hn hc h1c b1
  unfold Oper.wp
  simp [execOp, hop, resolve, invoke, builtin, hs, hx, hrun, Result.andThen]
  exact hK w' r1 r2

def hexS : ByteArray := { data := #[48, 49, 50, 51, 52, 53, 54, 55, 56, 57, 97, 98, 99, 100, 101, 102] }

theorem hex_at (k : Int) (h0 : 0 ≤ k) (h1 : k < 16) : ∃ v : Int, 48 ≤ v ∧ v ≤ 102 ∧ v ≠ 92 ∧ ∀ w, (Instr.index 9 (.string { data := #[48, 49, 50, 51, 52, 53, 54, 55, 56, 57, 97, 98, 99, 100, 101, 102] }) (.int .u8 k)).run Trym.prog w = .ok (.int .u8 v) w := by
  have : k = 0 ∨ k = 1 ∨ k = 2 ∨ k = 3 ∨ k = 4 ∨ k = 5 ∨ k = 6 ∨ k = 7 ∨ k = 8 ∨ k = 9 ∨ k = 10 ∨ k = 11 ∨ k = 12 ∨ k = 13 ∨ k = 14 ∨ k = 15 := by omega
  rcases this with rfl | rfl | rfl | rfl | rfl | rfl | rfl | rfl | rfl | rfl | rfl | rfl | rfl | rfl | rfl | rfl
  · exact ⟨48, by decide, by decide, by decide, fun _ => by kernel_rfl⟩
  · exact ⟨49, by decide, by decide, by decide, fun _ => by kernel_rfl⟩
  · exact ⟨50, by decide, by decide, by decide, fun _ => by kernel_rfl⟩
  · exact ⟨51, by decide, by decide, by decide, fun _ => by kernel_rfl⟩
  · exact ⟨52, by decide, by decide, by decide, fun _ => by kernel_rfl⟩
  · exact ⟨53, by decide, by decide, by decide, fun _ => by kernel_rfl⟩
  · exact ⟨54, by decide, by decide, by decide, fun _ => by kernel_rfl⟩
  · exact ⟨55, by decide, by decide, by decide, fun _ => by kernel_rfl⟩
  · exact ⟨56, by decide, by decide, by decide, fun _ => by kernel_rfl⟩
  · exact ⟨57, by decide, by decide, by decide, fun _ => by kernel_rfl⟩
  · exact ⟨97, by decide, by decide, by decide, fun _ => by kernel_rfl⟩
  · exact ⟨98, by decide, by decide, by decide, fun _ => by kernel_rfl⟩
  · exact ⟨99, by decide, by decide, by decide, fun _ => by kernel_rfl⟩
  · exact ⟨100, by decide, by decide, by decide, fun _ => by kernel_rfl⟩
  · exact ⟨101, by decide, by decide, by decide, fun _ => by kernel_rfl⟩
  · exact ⟨102, by decide, by decide, by decide, fun _ => by kernel_rfl⟩

theorem and_fifteen (c : Int) (h0 : 0 ≤ c) (h1 : c < 32) : ∃ k : Int, 0 ≤ k ∧ k < 16 ∧ bits BinOp.and IntKind.u8 c 15 = k := by
  have : ∀ n : Fin 32, 0 ≤ bits BinOp.and IntKind.u8 (n.val : Int) 15 ∧ bits BinOp.and IntKind.u8 (n.val : Int) 15 < 16 := by decide +kernel
  have h := this ⟨c.toNat, by omega⟩
  rw [show ((c.toNat : Nat) : Int) = c from by omega] at h
  exact ⟨_, h.1, h.2, rfl⟩

/-- how many bytes skipString's loop goes on, from the first byte behind the opening quote: up to and past the closing quote -/
def scan : List Int → Option Nat
  | [] => none
  | [c] => if c = 34 then some 1 else none
  | c :: d :: r => if c = 34 then some 1 else if c = 92 then (scan r).map (· + 2) else (scan (d :: r)).map (· + 1)

/-- a piece that the loop goes over without stopping -/
def Neutral (E : List Int) : Prop := ∀ R, scan (E ++ R) = (scan R).map (· + E.length)

theorem neutral_nil : Neutral [] := fun R => by cases h : scan R <;> simp [h]

theorem neutral_one {c : Int} (h1 : c ≠ 34) (h2 : c ≠ 92) : Neutral [c] := fun R => by
  cases R with
  | nil => simp [scan, h1]
  | cons d r => simp [scan, h1, h2]

theorem neutral_two (c : Int) : Neutral [92, c] := fun R => by simp [scan]

theorem neutral_append {E F : List Int} (hE : Neutral E) (hF : Neutral F) : Neutral (E ++ F) := fun R => by
  rw [List.append_assoc, hE, hF]
  cases h : scan R <;> simp
  omega

theorem neutral_six {v1 v2 : Int} (h1 : 48 ≤ v1) (h2 : v1 ≠ 92) (h3 : 48 ≤ v2) (h4 : v2 ≠ 92) : Neutral [92, 117, 48, 48, v1, v2] := by
  have a := neutral_append (neutral_two 117) (neutral_append (neutral_one (c := 48) (by decide) (by decide)) (neutral_append (neutral_one (c := 48) (by decide) (by decide))
    (neutral_append (neutral_one (c := v1) (by omega) h2) (neutral_one (c := v2) (by omega) h4))))
  exact a

theorem news_cells (W : World) (C : List Value) (t : TypeId) : ∀ j u, C[j]? = some u → (W.alloc (.cells C.toArray t)).cell? ((⟨W.heap.size, 0, none⟩ : Addr).add j) = some u := by
  intro j u hu
  have hadd : (⟨W.heap.size, 0, none⟩ : Addr).add j = ⟨W.heap.size, j, none⟩ := by unfold Addr.add; split <;> simp_all
  rw [hadd, World.cell?_alloc_new]
  simpa using hu

/-- what the loop knows: 'N' bytes in the buffer, of them 'E' of its own -/
def Buf (W : World) (g N K : Nat) (Y : List Int) : Prop := W.ownsRow g 5 1 (.slice (some ⟨g, 0, none⟩) N K) N (Y.map (Value.int .u8))

theorem below_more {w wr w1 : World} {g : Nat} {o : Obj} (hb : Below g w wr) (hg : g ≤ wr.heap.size) (h : (wr.alloc o).grownBy w1 (some g)) : Below g w w1 :=
  (hb.alloc hg o).grown h (by rw [World.size_alloc]; omega) (fun k hk => by cases hk; exact Nat.le_refl _)

theorem grown_undrew {W w1 : World} {r : Option Nat} (h : W.drew.grownBy w1 r) : W.grownBy w1 r := ⟨h.os, h.tape, h.output, h.size, h.block⟩

theorem esc_step {w wr w1 : World} {o : Obj} {g n N K q : Nat} {X E Z : List Int} (hown1 : w1.ownsRow g 5 1 (.slice (some ⟨g, 0, none⟩) (N + q) K) (N + q) ((X ++ E).map (Value.int .u8) ++ Z.map (Value.int .u8)))
    (hgrow1 : (wr.alloc o).grownBy w1 (some g)) (HN : N = n + E.length) (HE : Neutral E) (HZ : Neutral Z) (hZ : Z.length = q) (hbel : Below g w wr) (hgr : g < wr.heap.size) :
    Hid (N + q = n + (E ++ Z).length ∧ Neutral (E ++ Z) ∧ Buf w1 g (N + q) K (X ++ (E ++ Z)) ∧ Below g w w1) := by
  refine ⟨by rw [List.length_append]; omega, neutral_append HE HZ, ?_, below_more hbel (by omega) hgrow1⟩
  unfold Buf
  rw [← List.append_assoc, List.map_append]
  exact hown1

set_option maxHeartbeats 1000000 in
theorem escape_some (g h n m K : Nat) (X : List Int) (z : Nat → Int) (w : World) (hown : Buf w g n K X) (hhg : h < g) (hgw : g < w.heap.size) (hroom : n + 6 * m ≤ K)
    (HR : Hid (∀ j, j < m → w.cell? ⟨h, j, none⟩ = some (.int .u8 (z j)))) (HZ : Hid (∀ j, 0 ≤ z j ∧ z j ≤ 255)) (hm : m ≤ 65536) :
    Calls Trym.prog 16 #[.slice (some ⟨g, 0, none⟩) n K, .slice (some ⟨h, 0, none⟩) m m] w fun e w' => ∃ (N : Nat) (E : List Int), e = .returned (.slice (some ⟨g, 0, none⟩) N K) ∧ N = n + E.length ∧ N ≤ n + 6 * m ∧ Neutral E ∧ Buf w' g N K (X ++ E) ∧ Below g w w' := by
  obtain ⟨i0, hi, hz0, hz1, hz2⟩ := info_parts info5
  have HO : Hid (Buf w g n K X) := hown
  clear hown
  go_enter Trym.func16, Trym.ntmps16
  go_wp2
  go_loopw [0, 5] (fun d i wr => ∃ (k N : Nat) (E : List Int), k ≤ m ∧ i = .int .i64 k ∧ d = .slice (some ⟨g, 0, none⟩) N K ∧ N ≤ n + 6 * k ∧ Hid (N = n + E.length) ∧ Hid (Neutral E) ∧ Hid (Buf wr g N K (X ++ E)) ∧ Below g w wr) (fun _ i _ => m - (intOf i).toNat)
  case atStart => exact ⟨0, n, [], Nat.zero_le _, rfl, rfl, Nat.le_refl _, (rfl : _ = _), neutral_nil, (by rw [List.append_nil]; exact HO.out : Buf w g n K (X ++ [])), Below.refl _ _⟩
  case round =>
    obtain ⟨k, N, E, hk, rfl, rfl, hN, HN, HE, HB, hbel⟩ := hrel
    have hgr : g < wr.heap.size := Nat.lt_of_lt_of_le hgw hbel.size
    by_cases hlt : k < m
    · obtain ⟨c, hcz⟩ : ∃ c, c = z k := ⟨_, rfl⟩
      have hck : wr.cell? ⟨h, k, none⟩ = some (.int .u8 c) := by rw [hcz]; exact (hbel.cell hhg).trans (HR.out k hlt)
      have hc0 : 0 ≤ c := by rw [hcz]; exact (HZ.out k).1
      have hc1 : c ≤ 255 := by rw [hcz]; exact (HZ.out k).2
      clear hcz
      by_cases hq : c = 34 ∨ c = 92
      · have hd : (c == 34) = true ∨ ((c == 34) = false ∧ (c == 92) = true) := by
          rcases hq with h | h
          · exact .inl (by simp [h])
          · exact .inr (by simp [h])
        clear hq
        rcases hd with hd | ⟨hd, hd2⟩
        all_goals
          go_wp2_with (at_builtin; refine wpList_append_fits _ rfl (.tmp 23) (.tmp 25) 22 rfl g 5 i0 1 Trym.underlying22 hi hz1 g N K ((X ++ E).map (Value.int .u8)) rfl (HB.out.alloc _) ⟨wr.heap.size, 0, none⟩ 2 2 ([92, c].map (Value.int .u8)) rfl rfl (news_cells wr _ 5) (ints_oneCell _ _) (by omega) ?_; intro w1 hown1 hgrow1)
          have ST := esc_step hown1 hgrow1 HN.out HE.out (neutral_two c) rfl hbel hgr
          clear hown1 hgrow1
          go_wp2
          go_roundw
          case rel => exact ⟨k + 1, N + 2, E ++ [92, c], by omega, by go_num, rfl, by omega, ST.out.1, ST.out.2.1, ST.out.2.2.1, ST.out.2.2.2⟩
          case measure => simp [intOf]; omega
      · have h34 : (c == 34) = false := by simp; omega
        have h92 : (c == 92) = false := by simp; omega
        have HQ : Hid (c ≠ 34 ∧ c ≠ 92) := (by omega : c ≠ 34 ∧ c ≠ 92)
        clear hq
        by_cases h10 : (c == 10) = true
        · go_wp2_with (at_builtin; (refine wpList_append_fits _ rfl (.tmp 29) (.tmp 30) 22 rfl g 5 i0 1 Trym.underlying22 hi hz1 g N K ((X ++ E).map (Value.int .u8)) rfl (HB.out.alloc _) ⟨wr.heap.size, 0, none⟩ 2 2 ([92, 110].map (Value.int .u8)) rfl rfl (news_cells wr _ 5) (ints_oneCell _ _) (by omega) ?_; intro w1 hown1 hgrow1))
          have ST := esc_step hown1 hgrow1 HN.out HE.out (neutral_two 110) rfl hbel hgr
          clear hown1 hgrow1
          go_wp2
          go_roundw
          case rel => exact ⟨k + 1, N + 2, E ++ [92, 110], by omega, by go_num, rfl, by omega, ST.out.1, ST.out.2.1, ST.out.2.2.1, ST.out.2.2.2⟩
          case measure => simp [intOf]; omega
        · have h10' : (c == 10) = false := by simpa using h10
          clear h10
          by_cases h32 : c < 32
          · obtain ⟨v1, p1, p2, p3, hx1⟩ := hex_at (c / 16) (by omega) (by omega)
            obtain ⟨k2, q0, q1, hk2⟩ := and_fifteen c hc0 h32
            obtain ⟨v2, r1, r2, r3, hx2⟩ := hex_at k2 q0 q1
            have H6 : Hid (Neutral [92, 117, 48, 48, v1, v2]) := neutral_six p1 p3 r1 r3
            clear p1 p2 p3 r1 r2 r3 q0 q1
            go_wp2_with fail
            go_region_law (refine step_append_fits rfl (.tmp 34) (.tmp 41) 22 rfl g 5 i0 1 Trym.underlying22 hi hz1 g N K ((X ++ E).map (Value.int .u8)) rfl (HB.out.alloc _) ⟨wr.heap.size, 0, none⟩ 6 6 ([92, 117, 48, 48, v1, v2].map (Value.int .u8)) rfl rfl (news_cells wr _ 5) (ints_oneCell _ _) (by omega) ?_; intro w1 hown1 hgrow1)
            all_goals
              have ST := esc_step hown1 (grown_undrew hgrow1) HN.out HE.out H6.out rfl hbel hgr
              clear hown1 hgrow1
              go_wp2
              go_roundw
              case rel => exact ⟨k + 1, N + 6, E ++ [92, 117, 48, 48, v1, v2], by omega, by go_num, rfl, by omega, ST.out.1, ST.out.2.1, ST.out.2.2.1, ST.out.2.2.2⟩
              case measure => simp [intOf]; omega
          · go_wp2_with (at_builtin; refine wpList_append_fits _ rfl (.tmp 43) (.tmp 45) 22 rfl g 5 i0 1 Trym.underlying22 hi hz1 g N K ((X ++ E).map (Value.int .u8)) rfl (HB.out.alloc _) ⟨wr.heap.size, 0, none⟩ 1 1 ([c].map (Value.int .u8)) rfl rfl (news_cells wr _ 5) (ints_oneCell _ _) (by omega) ?_; intro w1 hown1 hgrow1)
            have ST := esc_step hown1 hgrow1 HN.out HE.out (neutral_one HQ.out.1 HQ.out.2) rfl hbel hgr
            clear hown1 hgrow1
            go_wp2
            go_roundw
            case rel => exact ⟨k + 1, N + 1, E ++ [c], by omega, by go_num, rfl, by omega, ST.out.1, ST.out.2.1, ST.out.2.2.1, ST.out.2.2.2⟩
            case measure => simp [intOf]; omega
    · obtain rfl : k = m := by omega
      go_wp2
      go_ret
      exact ⟨N, E, rfl, HN.out, hN, HE.out, HB.out, hbel⟩

end Go.Proofs.Qxb6605390aMods
