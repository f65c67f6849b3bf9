/- Plain facts on the texts of try; a try whose catch was stored behind its making. -/
import Derived.Test.YtejbdgkcoajpfaaDoorSmF
import Derived.Test.YtejbdgkcoajpfaaDoorLaw4
set_option linter.unusedVariables false
namespace Go.Proofs.YtejbdgkcoajpfaaDoor
open Go.Shelf Go.RowKit

theorem gap_try (x : List UInt8) : gap (x ++ sTry) = [] := by simp [gap, gapB, sTry]
theorem gap_catch (x : List UInt8) : gap (x ++ sCatch) = [] := by simp [gap, gapB, sCatch]
theorem try_text (k : Int) (s : ByteArray) (l : List UInt8) : fTry (smallF k s) l = sTry ++ smallT k s := by
  unfold fTry
  rw [smallF_of k s _ (gap_try l)]
theorem tryc_text (k1 k2 : Int) (s1 s2 : ByteArray) (l : List UInt8) : fTryCatch (smallF k1 s1) (smallF k2 s2) l = sTry ++ smallT k1 s1 ++ sCatch ++ smallT k2 s2 := by
  unfold fTryCatch
  rw [smallF_of k1 s1 _ (gap_try l), smallF_of k2 s2 _ (gap_catch _)]

theorem set_other (w : World) (p q : Addr) (v : Value) (h : p ≠ q) : (w.setCell p v).cell? q = w.cell? q := by
  first | exact World.cell?_setCell_other _ _ _ _ h | exact World.cell?_setCell_other _ _ _ h | exact World.cell?_setCell_other h
theorem set_same (w : World) (p : Addr) (u v : Value) (h : w.cell? p = some u) : (w.setCell p v).cell? p = some v := by
  first | exact World.cell?_setCell_same _ _ _ h | exact World.cell?_setCell_same _ _ h | exact World.cell?_setCell_same h

theorem try_made (w1 w2 : World) (q1 q2 : Nat) (f g : List UInt8 → List UInt8) (P1 : Prints 46 w1 ⟨q1, 0, none⟩ f)
    (l2 : Below (w1.alloc (.cells #[.pointer (some ⟨q1, 0, none⟩), .pointer none] 63)).heap.size (w1.alloc (.cells #[.pointer (some ⟨q1, 0, none⟩), .pointer none] 63)) w2)
    (P2 : ∀ wv, FromOn (w1.alloc (.cells #[.pointer (some ⟨q1, 0, none⟩), .pointer none] 63)).heap.size w2 wv → Prints 46 wv ⟨q2, 0, none⟩ g) :
    w1.heap.size < w2.heap.size ∧ w2.cell? ⟨w1.heap.size, 0, none⟩ = some (.pointer (some ⟨q1, 0, none⟩)) ∧ w2.cell? ⟨w1.heap.size, 1, none⟩ = some (.pointer none) ∧ w2.frozen? ⟨w1.heap.size, 1, none⟩ = false
    ∧ Prints 48 (w2.setCell ⟨w1.heap.size, 1, none⟩ (.pointer (some ⟨q2, 0, none⟩))) ⟨w1.heap.size, 0, none⟩ (fTryCatch f g)
    ∧ Below w1.heap.size w1 (w2.setCell ⟨w1.heap.size, 1, none⟩ (.pointer (some ⟨q2, 0, none⟩))) := by
  have hz : w1.heap.size < w2.heap.size := by have := l2.size; simp at this; omega
  have e0 : w2.cell? ⟨w1.heap.size, 0, none⟩ = some (.pointer (some ⟨q1, 0, none⟩)) := (l2.cell (p := ⟨w1.heap.size, 0, none⟩) (by simp)).trans (by simp [go_sem])
  have e1 : w2.cell? ⟨w1.heap.size, 1, none⟩ = some (.pointer none) := (l2.cell (p := ⟨w1.heap.size, 1, none⟩) (by simp)).trans (by simp [go_sem])
  have f1 : w2.frozen? ⟨w1.heap.size, 1, none⟩ = false := (l2.frozen (p := ⟨w1.heap.size, 1, none⟩) (by simp)).trans (by simp [go_sem])
  have B2 : Below w1.heap.size w1 w2 := (below_fresh w1 _).trans (l2.mono (by simp))
  have B3 := B2.setCell (p := ⟨w1.heap.size, 1, none⟩) (Nat.le_refl _) (.pointer (some ⟨q2, 0, none⟩))
  refine ⟨hz, e0, e1, f1, ?_, B3⟩
  refine try_catch _ w1.heap.size ⟨q1, 0, none⟩ ⟨q2, 0, none⟩ f g ?_ ?_ ?_ (P1.later B3) (P2 _ ((FromOn.refl _ _).setCell (by simp) _))
  · have := ((Below.refl 0 w2).setCell (p := ⟨w1.heap.size, 1, none⟩) (Nat.zero_le _) (.pointer (some ⟨q2, 0, none⟩))).size
    omega
  · rw [set_other _ _ _ _ (by simp)]; exact e0
  · exact set_same _ _ _ _ e1
end Go.Proofs.YtejbdgkcoajpfaaDoor
