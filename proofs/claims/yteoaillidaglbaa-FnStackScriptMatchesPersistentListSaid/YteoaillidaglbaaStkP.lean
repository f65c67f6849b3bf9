/- push on a stack of the call's own: a pair overwritten, or appended. -/
import Derived.Test.YteoaillidaglbaaStk
set_option linter.unusedVariables false
namespace Go.Proofs.Yteoaillidaglbaa
open Go.RowKit

set_option maxRecDepth 100000 in
theorem push_roomA (w : World) (B b : Nat) (ds : List (Int × Int)) (idx : Int) (j : Nat) (g cap : Nat) (x : Int) (h : Stk w B b ds idx ((j : Int) - 1) (.slice (some ⟨g, 0, none⟩) ds.length cap)) (hlen : ds.length ≤ 2097152) (hj : j < ds.length) (hlt : idx < (j : Int) - 1) :
    Calls Try.prog 12 #[.pointer (some ⟨b, 0, none⟩), .int .i64 x] w fun e w' => e = .returned (.tuple #[]) ∧ Stk w' B b (ds.set j (x, idx)) j ((j : Int) - 1) (.slice (some ⟨g, 0, none⟩) ds.length cap) ∧ Only b (some g) w w' := by
  have c0 := h.c0
  have c1 := h.c1
  have c2 := h.c2
  have f1 := h.fz 1
  have hbl := h.lt
  have hgl : g < w.heap.size := ((h.2.2).lt g rfl).2
  have hne := ne_of_own h
  have hl := cellsOf_len ds
  have d0 := (h.2.2.cellAt (j * 2) (by omega)).trans (List.getElem?_eq_getElem (by omega))
  have d1 := (h.2.2.cellAt (j * 2 + 1) (by omega)).trans (List.getElem?_eq_getElem (by omega))
  have g0 := h.2.2.frozenAt (j * 2)
  have g1 := h.2.2.frozenAt (j * 2 + 1)
  generalize (cellsOf ds)[j * 2] = o0 at d0
  generalize (cellsOf ds)[j * 2 + 1] = o1 at d1
  clear hl
  go_enter Try.func12, Try.ntmps12
  go_wp2
  go_region
  go_wp2
  go_quiet (fail)
  go_wp2
  go_region
  go_wp2
  go_end0
  exact ⟨rfl, (((h.set1 j).alloc _).drewN _).setPair j x idx, (((((Only.refl _ _ _).set _ _).alloc _).drewN _).setRow _ _).setRow _ _⟩

set_option maxRecDepth 100000 in
theorem push_roomB (w : World) (B b : Nat) (ds : List (Int × Int)) (lim : Int) (j : Nat) (g cap : Nat) (x : Int) (h : Stk w B b ds ((j : Int) - 1) lim (.slice (some ⟨g, 0, none⟩) ds.length cap)) (hlen : ds.length ≤ 2097152) (hj : j < ds.length) (hlt : lim ≤ (j : Int) - 1) :
    Calls Try.prog 12 #[.pointer (some ⟨b, 0, none⟩), .int .i64 x] w fun e w' => e = .returned (.tuple #[]) ∧ Stk w' B b (ds.set j (x, (j : Int) - 1)) j lim (.slice (some ⟨g, 0, none⟩) ds.length cap) ∧ Only b (some g) w w' := by
  have c0 := h.c0
  have c1 := h.c1
  have c2 := h.c2
  have f1 := h.fz 1
  have hbl := h.lt
  have hgl : g < w.heap.size := ((h.2.2).lt g rfl).2
  have hne := ne_of_own h
  have hl := cellsOf_len ds
  have d0 := (h.2.2.cellAt (j * 2) (by omega)).trans (List.getElem?_eq_getElem (by omega))
  have d1 := (h.2.2.cellAt (j * 2 + 1) (by omega)).trans (List.getElem?_eq_getElem (by omega))
  have g0 := h.2.2.frozenAt (j * 2)
  have g1 := h.2.2.frozenAt (j * 2 + 1)
  generalize (cellsOf ds)[j * 2] = o0 at d0
  generalize (cellsOf ds)[j * 2 + 1] = o1 at d1
  clear hl
  go_enter Try.func12, Try.ntmps12
  go_wp2
  go_region
  go_wp2
  go_quiet (fail)
  go_wp2
  go_region
  go_wp2
  go_end0
  exact ⟨rfl, (((h.set1 j).alloc _).drewN _).setPair j x ((j : Int) - 1), (((((Only.refl _ _ _).set _ _).alloc _).drewN _).setRow _ _).setRow _ _⟩


end Go.Proofs.Yteoaillidaglbaa
