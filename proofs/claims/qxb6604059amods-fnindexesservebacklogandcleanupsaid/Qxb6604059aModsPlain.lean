/-
  The texts that the statements are made of, and the plain laws on them: no Go in sight.
-/
import Derived.WalkKit
import Derived.Lib.Strings
import Derived.Lib.IndexBytes
namespace Go.Proofs.Qxb6604059aMods

def nUnheld : ByteArray := { data := #[95, 117, 110, 104, 101, 108, 100] }
def nFailed : ByteArray := { data := #[95, 102, 97, 105, 108, 101, 100, 95, 98, 121, 95, 97, 103, 103, 114, 101, 103, 97, 116, 101] }
def nHeld : ByteArray := { data := #[95, 104, 101, 108, 100] }
def nUnheldAgg : ByteArray := { data := #[95, 117, 110, 104, 101, 108, 100, 95, 98, 121, 95, 97, 103, 103, 114, 101, 103, 97, 116, 101] }
def nSettled : ByteArray := { data := #[95, 115, 101, 116, 116, 108, 101, 100] }
def kUnheld : ByteArray := { data := #[112, 117, 98, 108, 105, 115, 104, 101, 100, 95, 97, 116, 32, 73, 83, 32, 78, 85, 76, 76, 32, 65, 78, 68, 32, 115, 107, 105, 112, 112, 101, 100, 95, 97, 116, 32, 73, 83, 32, 78, 85, 76, 76, 32, 65, 78, 68, 32, 104, 101, 108, 100, 95, 97, 116, 32, 73, 83, 32, 78, 85, 76, 76] }
def kFailed : ByteArray := { data := #[112, 117, 98, 108, 105, 115, 104, 101, 100, 95, 97, 116, 32, 73, 83, 32, 78, 85, 76, 76, 32, 65, 78, 68, 32, 115, 107, 105, 112, 112, 101, 100, 95, 97, 116, 32, 73, 83, 32, 78, 85, 76, 76, 32, 65, 78, 68, 32, 97, 116, 116, 101, 109, 112, 116, 115, 32, 62, 32, 48] }
def kHeld : ByteArray := { data := #[112, 117, 98, 108, 105, 115, 104, 101, 100, 95, 97, 116, 32, 73, 83, 32, 78, 85, 76, 76, 32, 65, 78, 68, 32, 115, 107, 105, 112, 112, 101, 100, 95, 97, 116, 32, 73, 83, 32, 78, 85, 76, 76, 32, 65, 78, 68, 32, 104, 101, 108, 100, 95, 97, 116, 32, 73, 83, 32, 78, 79, 84, 32, 78, 85, 76, 76] }
def kSettled : ByteArray := { data := #[40, 112, 117, 98, 108, 105, 115, 104, 101, 100, 95, 97, 116, 32, 73, 83, 32, 78, 79, 84, 32, 78, 85, 76, 76, 32, 79, 82, 32, 115, 107, 105, 112, 112, 101, 100, 95, 97, 116, 32, 73, 83, 32, 78, 79, 84, 32, 78, 85, 76, 76, 41] }
def cSettled : ByteArray := { data := #[40, 99, 111, 97, 108, 101, 115, 99, 101, 40, 112, 117, 98, 108, 105, 115, 104, 101, 100, 95, 97, 116, 44, 32, 115, 107, 105, 112, 112, 101, 100, 95, 97, 116, 41, 41] }
def cAgg : ByteArray := { data := #[97, 103, 103, 114, 101, 103, 97, 116, 101, 95, 116, 121, 112, 101, 44, 32, 97, 103, 103, 114, 101, 103, 97, 116, 101, 95, 105, 100, 44, 32] }
def bHead : ByteArray := { data := #[83, 69, 76, 69, 67, 84, 32, 99, 111, 117, 110, 116, 40, 42, 41, 32, 70, 73, 76, 84, 69, 82, 32, 40, 87, 72, 69, 82, 69, 32, 112, 97, 114, 107, 101, 100, 95, 97, 116, 32, 73, 83, 32, 78, 85, 76, 76, 41, 44, 32, 99, 111, 117, 110, 116, 40, 42, 41, 32, 70, 73, 76, 84, 69, 82, 32, 40, 87, 72, 69, 82, 69, 32, 112, 97, 114, 107, 101, 100, 95, 97, 116, 32, 73, 83, 32, 78, 79, 84, 32, 78, 85, 76, 76, 41, 44, 10, 9, 9, 9, 9, 103, 114, 101, 97, 116, 101, 115, 116, 40, 102, 108, 111, 111, 114, 40, 101, 120, 116, 114, 97, 99, 116, 40, 101, 112, 111, 99, 104, 32, 70, 82, 79, 77, 32, 110, 111, 119, 40, 41, 32, 45, 32, 109, 105, 110, 40, 99, 114, 101, 97, 116, 101, 100, 95, 97, 116, 41, 32, 70, 73, 76, 84, 69, 82, 32, 40, 87, 72, 69, 82, 69, 32, 112, 97, 114, 107, 101, 100, 95, 97, 116, 32, 73, 83, 32, 78, 85, 76, 76, 41, 41, 41, 44, 32, 48, 41, 58, 58, 98, 105, 103, 105, 110, 116, 10, 9, 9, 9, 70, 82, 79, 77, 32, 40, 83, 69, 76, 69, 67, 84, 32, 112, 97, 114, 107, 101, 100, 95, 97, 116, 44, 32, 99, 114, 101, 97, 116, 101, 100, 95, 97, 116, 32, 70, 82, 79, 77, 32] }
def sWhere : ByteArray := { data := #[32, 87, 72, 69, 82, 69, 32] }
def bMid : ByteArray := { data := #[10, 9, 9, 9, 9, 85, 78, 73, 79, 78, 32, 65, 76, 76, 32, 83, 69, 76, 69, 67, 84, 32, 112, 97, 114, 107, 101, 100, 95, 97, 116, 44, 32, 99, 114, 101, 97, 116, 101, 100, 95, 97, 116, 32, 70, 82, 79, 77, 32] }
def bTail : ByteArray := { data := #[41, 32, 65, 83, 32, 101] }
def dHead : ByteArray := { data := #[68, 69, 76, 69, 84, 69, 32, 70, 82, 79, 77, 32] }
def dSel : ByteArray := { data := #[32, 87, 72, 69, 82, 69, 32, 105, 100, 32, 61, 32, 65, 78, 89, 40, 65, 82, 82, 65, 89, 40, 83, 69, 76, 69, 67, 84, 32, 105, 100, 32, 70, 82, 79, 77, 32] }
def dWhere : ByteArray := { data := #[10, 9, 9, 9, 9, 87, 72, 69, 82, 69, 32] }
def sAnd : ByteArray := { data := #[32, 65, 78, 68, 32] }
def settledAt : ByteArray := { data := #[99, 111, 97, 108, 101, 115, 99, 101, 40, 112, 117, 98, 108, 105, 115, 104, 101, 100, 95, 97, 116, 44, 32, 115, 107, 105, 112, 112, 101, 100, 95, 97, 116, 41] }
def dMid : ByteArray := { data := #[32, 60, 32, 110, 111, 119, 40, 41, 32, 45, 32, 36, 49, 58, 58, 98, 105, 103, 105, 110, 116, 32, 42, 32, 105, 110, 116, 101, 114, 118, 97, 108, 32, 39, 49, 32, 109, 105, 99, 114, 111, 115, 101, 99, 111, 110, 100, 39, 10, 9, 9, 9, 9, 79, 82, 68, 69, 82, 32, 66, 89, 32] }
def dTail : ByteArray := { data := #[32, 76, 73, 77, 73, 84, 32, 36, 50, 32, 70, 79, 82, 32, 85, 80, 68, 65, 84, 69, 32, 83, 75, 73, 80, 32, 76, 79, 67, 75, 69, 68, 41, 41] }
def sFrom : ByteArray := { data := #[70, 82, 79, 77, 32] }
def sUnion : ByteArray := { data := #[85, 78, 73, 79, 78, 32, 65, 76, 76, 32] }
def sWhere2 : ByteArray := { data := #[87, 72, 69, 82, 69, 32] }
def sLess : ByteArray := { data := #[32, 60, 32] }
def sOrder : ByteArray := { data := #[79, 82, 68, 69, 82, 32, 66, 89, 32] }
def sLimit : ByteArray := { data := #[32, 76, 73, 77, 73, 84] }

def backlogS (q : ByteArray) : ByteArray := bHead ++ q ++ sWhere ++ kUnheld ++ bMid ++ q ++ sWhere ++ kHeld ++ bTail
def cleanupS (q : ByteArray) : ByteArray := dHead ++ q ++ dSel ++ q ++ dWhere ++ kSettled ++ sAnd ++ settledAt ++ dMid ++ settledAt ++ dTail

theorem nUnheld_size : nUnheld.size = 7 := by decide +kernel
theorem nFailed_size : nFailed.size = 20 := by decide +kernel
theorem nHeld_size : nHeld.size = 5 := by decide +kernel
theorem nUnheldAgg_size : nUnheldAgg.size = 20 := by decide +kernel
theorem nSettled_size : nSettled.size = 8 := by decide +kernel
theorem kUnheld_size : kUnheld.size = 63 := by decide +kernel
theorem kFailed_size : kFailed.size = 60 := by decide +kernel
theorem kHeld_size : kHeld.size = 67 := by decide +kernel
theorem kSettled_size : kSettled.size = 52 := by decide +kernel
theorem cSettled_size : cSettled.size = 36 := by decide +kernel
theorem cAgg_size : cAgg.size = 30 := by decide +kernel
theorem bHead_size : bHead.size = 249 := by decide +kernel
theorem sWhere_size : sWhere.size = 7 := by decide +kernel
theorem bMid_size : bMid.size = 49 := by decide +kernel
theorem bTail_size : bTail.size = 6 := by decide +kernel
theorem dHead_size : dHead.size = 12 := by decide +kernel
theorem dSel_size : dSel.size = 37 := by decide +kernel
theorem dWhere_size : dWhere.size = 11 := by decide +kernel
theorem sAnd_size : sAnd.size = 5 := by decide +kernel
theorem settledAt_size : settledAt.size = 34 := by decide +kernel
theorem dMid_size : dMid.size = 62 := by decide +kernel
theorem dTail_size : dTail.size = 34 := by decide +kernel
theorem sFrom_size : sFrom.size = 5 := by decide +kernel
theorem sUnion_size : sUnion.size = 10 := by decide +kernel
theorem sWhere2_size : sWhere2.size = 6 := by decide +kernel
theorem sLess_size : sLess.size = 3 := by decide +kernel
theorem sOrder_size : sOrder.size = 9 := by decide +kernel
theorem sLimit_size : sLimit.size = 6 := by decide +kernel

theorem dl (a b : ByteArray) : (a ++ b).data.toList = a.data.toList ++ b.data.toList := by simp

/-- where a text is 'A', then 'p', then 'B', p is what is cut out behind A -/
theorem hit_of {s p : ByteArray} {A B : List UInt8} (h : s.data.toList = A ++ (p.data.toList ++ B)) :
    A.length + p.size ≤ s.size ∧ ((s.extract A.length (A.length + p.size)).toList == p.toList) = true := by
  have hp : p.size = p.data.toList.length := Lib.size_eq p
  have hs : s.size = s.data.toList.length := Lib.size_eq s
  refine ⟨by rw [hs, h, List.length_append, List.length_append]; omega, ?_⟩
  rw [Lib.extract_toList, Lib.toList_data, h, hp]
  rw [List.drop_left, show A.length + p.data.toList.length - A.length = p.data.toList.length from by omega, List.take_left]
  exact beq_self_eq_true _

theorem suffix_of {s p : ByteArray} {A : List UInt8} (h : s.data.toList = A ++ p.data.toList) :
    p.size ≤ s.size ∧ ((s.extract (s.size - p.size) s.size).toList == p.toList) = true := by
  have hp : p.size = p.data.toList.length := Lib.size_eq p
  have hs : s.size = A.length + p.size := by rw [Lib.size_eq s, h, List.length_append]; omega
  have := hit_of (s := s) (p := p) (A := A) (B := []) (by rw [List.append_nil]; exact h)
  rw [show s.size - p.size = A.length from by omega, hs]
  exact ⟨by omega, this.2⟩

theorem backlog_size (q : ByteArray) (h : q.size ≤ 4096) : (backlogS q).size ≤ 10000 := by
  simp only [backlogS, ByteArray.size_append, bHead_size, sWhere_size, kUnheld_size, bMid_size, kHeld_size, bTail_size]
  omega
theorem cleanup_size (q : ByteArray) (h : q.size ≤ 4096) : (cleanupS q).size ≤ 10000 := by
  simp only [cleanupS, ByteArray.size_append, dHead_size, dSel_size, dWhere_size, kSettled_size, sAnd_size, settledAt_size, dMid_size, dTail_size]
  omega

theorem bHead_cut : bHead.data.toList = bHead.data.toList.take 244 ++ sFrom.data.toList := by decide +kernel
theorem bMid_cut : bMid.data.toList = [10, 9, 9, 9, 9] ++ (sUnion.data.toList ++ bMid.data.toList.drop 15) := by decide +kernel
theorem bMid_cut2 : bMid.data.toList = bMid.data.toList.take 44 ++ sFrom.data.toList := by decide +kernel
theorem dWhere_cut : dWhere.data.toList = [10, 9, 9, 9, 9] ++ sWhere2.data.toList := by decide +kernel
theorem dMid_cut : dMid.data.toList = sLess.data.toList ++ dMid.data.toList.drop 3 := by decide +kernel
theorem dMid_cut2 : dMid.data.toList = dMid.data.toList.take 53 ++ sOrder.data.toList := by decide +kernel
theorem dTail_cut : dTail.data.toList = sLimit.data.toList ++ dTail.data.toList.drop 6 := by decide +kernel
theorem inner_eq : cSettled.extract 1 35 = settledAt := by decide +kernel

/-- the four places -/
theorem backlog_unheld (q : ByteArray) : ∃ A B, (backlogS q).data.toList = A ++ ((sFrom ++ q ++ sWhere ++ kUnheld).data.toList ++ ([10, 9, 9, 9, 9] ++ (sUnion.data.toList ++ B))) := by
  obtain ⟨A, hA⟩ : ∃ A, bHead.data.toList = A ++ sFrom.data.toList := ⟨_, bHead_cut⟩
  obtain ⟨C, hC⟩ : ∃ C, bMid.data.toList = [10, 9, 9, 9, 9] ++ (sUnion.data.toList ++ C) := ⟨_, bMid_cut⟩
  refine ⟨A, C ++ (q ++ sWhere ++ kHeld ++ bTail).data.toList, ?_⟩
  simp only [backlogS, dl, hA, hC, List.append_assoc]
theorem backlog_held (q : ByteArray) : ∃ A, (backlogS q).data.toList = A ++ (sFrom ++ q ++ sWhere ++ kHeld ++ bTail).data.toList := by
  obtain ⟨C, hC⟩ : ∃ C, bMid.data.toList = C ++ sFrom.data.toList := ⟨_, bMid_cut2⟩
  refine ⟨(bHead ++ q ++ sWhere ++ kUnheld).data.toList ++ C, ?_⟩
  simp only [backlogS, dl, hC, List.append_assoc]
theorem cleanup_where (q : ByteArray) : ∃ A B, (cleanupS q).data.toList = A ++ ((sWhere2 ++ kSettled ++ sAnd ++ settledAt ++ sLess).data.toList ++ B) := by
  obtain ⟨C, hC⟩ : ∃ C, dMid.data.toList = sLess.data.toList ++ C := ⟨_, dMid_cut⟩
  refine ⟨(dHead ++ q ++ dSel ++ q).data.toList ++ [10, 9, 9, 9, 9], C ++ (settledAt ++ dTail).data.toList, ?_⟩
  simp only [cleanupS, dl, dWhere_cut, hC, List.append_assoc]
theorem cleanup_order (q : ByteArray) : ∃ A B, (cleanupS q).data.toList = A ++ ((sOrder ++ settledAt ++ sLimit).data.toList ++ B) := by
  obtain ⟨C, hC⟩ : ∃ C, dMid.data.toList = C ++ sOrder.data.toList := ⟨_, dMid_cut2⟩
  obtain ⟨D, hD⟩ : ∃ D, dTail.data.toList = sLimit.data.toList ++ D := ⟨_, dTail_cut⟩
  refine ⟨(dHead ++ q ++ dSel ++ q ++ dWhere ++ kSettled ++ sAnd ++ settledAt).data.toList ++ C, D, ?_⟩
  simp only [cleanupS, dl, hC, hD, List.append_assoc]

end Go.Proofs.Qxb6604059aMods
