/-
  From the plain places to the contracts' conditions.
-/
import Derived.Test.Qxb6604059aModsIndexes
namespace Go.Proofs.Qxb6604059aMods
open Go.RowKit

theorem byte_at {s : ByteArray} {L : List UInt8} (h : s.data.toList = L) {j : Nat} (hj : j < s.size) {c : UInt8} (hc : L[j]? = some c) : s[j]'hj = c := by
  have := Lib.data_getElem? s j hj
  rw [h, hc] at this
  exact (Option.some.inj this).symm

theorem occurs_of {s p n : ByteArray} {A ws B : List UInt8} (h : s.data.toList = A ++ (p.data.toList ++ (ws ++ (n.data.toList ++ B))))
    (hws : ∀ c ∈ ws, isSp (c.toNat : Int) = true) {c : UInt8} {r : List UInt8} (hn : n.data.toList = c :: r) (hc : isSp (c.toNat : Int) = false) :
    ∃ k m, k + p.size ≤ m ∧ m + n.size ≤ s.size ∧ ((s.extract k (k + p.size)).toList == p.toList) = true ∧
      (∀ j, (hj : j < s.size) → k + p.size ≤ j → j < m → isSp ((s[j]'hj).toNat : Int) = true) ∧ (∀ hm : m < s.size, isSp ((s[m]'hm).toNat : Int) = false) ∧ 0 < n.size ∧ ((s.extract m (m + n.size)).toList == n.toList) = true := by
  have hp : p.size = p.data.toList.length := Lib.size_eq p
  have hns : n.size = n.data.toList.length := Lib.size_eq n
  have h1 := hit_of (s := s) (p := p) (A := A) (B := ws ++ (n.data.toList ++ B)) h
  have h2 := hit_of (s := s) (p := n) (A := A ++ (p.data.toList ++ ws)) (B := B) (by rw [h]; simp only [List.append_assoc])
  have hl : (A ++ (p.data.toList ++ ws)).length = A.length + p.size + ws.length := by rw [List.length_append, List.length_append]; omega
  rw [hl] at h2
  refine ⟨A.length, A.length + p.size + ws.length, by omega, h2.1, h1.2, ?_, ?_, by rw [hns, hn]; simp, h2.2⟩
  · intro j hj hj1 hj2
    have hlt : j - (A.length + p.size) < ws.length := by omega
    rw [byte_at h hj (c := ws[j - (A.length + p.size)]) ?_]
    · exact hws _ (List.getElem_mem _)
    · rw [List.getElem?_append_right (by omega), List.getElem?_append_right (by omega), List.getElem?_append_left (by omega), ← hp, List.getElem?_eq_getElem (by omega)]
      congr 2
      omega
  · intro hm
    rw [byte_at h hm (c := c) ?_]
    · exact hc
    · rw [List.getElem?_append_right (by omega), List.getElem?_append_right (by omega), List.getElem?_append_right (by omega), hn, ← hp]
      rw [show A.length + p.size + ws.length - A.length - p.size - ws.length = 0 from by omega]
      rfl

def nameAt : Nat → ByteArray
  | 0 => nUnheld
  | 1 => nFailed
  | 2 => nHeld
  | 3 => nUnheldAgg
  | _ => nSettled

theorem name_hit {a b : ByteArray} (h : (a.data.toList == b.data.toList) = true) : (a.toList == b.toList) = true := by
  rw [Lib.toList_data, Lib.toList_data]; exact h
theorem name_miss {a b : ByteArray} (h : (a.data.toList == b.data.toList) = false) : (a.toList == b.toList) = false := by
  rw [Lib.toList_data, Lib.toList_data]; exact h

end Go.Proofs.Qxb6604059aMods
