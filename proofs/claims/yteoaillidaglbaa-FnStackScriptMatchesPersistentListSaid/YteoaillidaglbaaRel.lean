/- What holds while FnStackScriptMatchesPersistentList runs: the stack and the arena of cells hold the same chain, now and at every save that is not yet used. -/
import Derived.Test.YteoaillidaglbaaM5
set_option linter.unusedVariables false
namespace Go.Proofs.Yteoaillidaglbaa
open Go.RowKit

theorem Chain.append {ar : List (Int × Int)} {i : Int} {xs : List Int} (h : Chain ar i xs) (z : List (Int × Int)) : Chain (ar ++ z) i xs := by
  induction h with
  | nil i hi => exact .nil i hi
  | cons i x nx xs hx hn t ih => exact .cons i x nx xs (by rw [List.getElem?_append_left (List.getElem?_eq_some_iff.1 hx).1]; exact hx) hn ih
theorem Chain.lt {ar : List (Int × Int)} {i : Int} {xs : List Int} (h : Chain ar i xs) (hi : 0 ≤ i) : i < ar.length := by
  cases h with
  | nil _ h => omega
  | cons i x nx xs hx hn t => have := (List.getElem?_eq_some_iff.1 hx).1; omega

/-- The saves that are not yet used, the latest first: (node, index, limit). -/
def SavedOK (ds ar : List (Int × Int)) : Int → List (Int × Int × Int) → Prop
  | _, [] => True
  | lim, (nd, i, l) :: rest => -1 ≤ i ∧ -1 ≤ l ∧ i ≤ lim ∧ l ≤ lim ∧ (∃ ys, Chain ds i ys ∧ Chain ar nd ys) ∧ SavedOK ds ar l rest
theorem SavedOK.push {ds ar : List (Int × Int)} {idx lim : Int} (hv : Inv ds idx lim) (x : Int) (z : List (Int × Int)) : ∀ (S : List (Int × Int × Int)) (l0 : Int), l0 ≤ lim → SavedOK ds ar l0 S → SavedOK (pushDs ds idx lim x) (ar ++ z) l0 S
  | [], _, _, _ => trivial
  | (nd, i, l) :: rest, l0, hl0, ⟨h1, h2, h3, h4, ⟨ys, h5, h6⟩, h7⟩ =>
    ⟨h1, h2, h3, h4, ⟨ys, h5.far hv (by omega), h6.append z⟩, SavedOK.push hv x z rest l (by omega) h7⟩

/-- A row of ints of the call's own. -/
def IRow (w : World) (B g cap : Nat) (xs : List Int) : Prop := w.ownsRow B 3 1 (.slice (some ⟨g, 0, none⟩) xs.length cap) xs.length (xs.map (Value.int .i64))
theorem IRow.blk {w : World} {B g cap : Nat} {xs : List Int} (h : IRow w B g cap xs) : ∃ cur, w.heap[g]? = some (.cells cur 3 (0, 0)) := by
  rcases h.2 with ⟨h', _⟩ | ⟨g', cap', cur, h', _, hg, _⟩
  · cases h'
  · cases h'; exact ⟨cur, hg⟩
theorem IRow.lt {w : World} {B g cap : Nat} {xs : List Int} (h : IRow w B g cap xs) : g < w.heap.size := (World.ownsRow.lt h g rfl).2
theorem IRow.base {w : World} {B g cap : Nat} {xs : List Int} (h : IRow w B g cap xs) : B ≤ g := (World.ownsRow.lt h g rfl).1
theorem IRow.of_block {w w' : World} {B g cap : Nat} {xs : List Int} (h : IRow w B g cap xs) (e : w'.heap[g]? = w.heap[g]?) : IRow w' B g cap xs := by
  refine ⟨h.1, ?_⟩
  rcases h.2 with ⟨h', _⟩ | ⟨g', cap', cur, h', h1, hg, h2⟩
  · cases h'
  · cases h'; exact Or.inr ⟨g, cap, cur, rfl, h1, e.trans hg, h2⟩
theorem IRow.cell {w : World} {B g cap k : Nat} {xs : List Int} {x : Int} (h : IRow w B g cap xs) (hx : xs[k]? = some x) : w.cell? ⟨g, k, none⟩ = some (.int .i64 x) := by
  have hk := (List.getElem?_eq_some_iff.1 hx).1
  rw [World.ownsRow.cellAt h k (by omega), List.getElem?_map, hx]; rfl
theorem IRow.grown {w w' : World} {B g g' cap : Nat} {xs : List Int} (h : IRow w B g cap xs) (hg : w.grownBy w' (some g')) (hne : g ≠ g') : IRow w' B g cap xs :=
  h.of_block (hg.block g h.lt (fun e => hne (by injection e)))
/-- Block g of ints is neither a stack nor its row. -/
theorem IRow.only {w w' : World} {B g cap b : Nat} {xs : List Int} {o : Option Nat} {ds : List (Int × Int)} {i l : Int} {v : Value} (h : IRow w B g cap xs) (hS : Stk w B b ds i l v) (hO : Only b o w w') (ho : o = v.ownBlock ∨ o = none) : IRow w' B g cap xs := by
  obtain ⟨cur, hg⟩ := h.blk
  refine h.of_block (hO.block g h.lt ?_ ?_)
  · rintro rfl
    rw [hS.1] at hg
    injection hg with hg
    injection hg with _ ht
    exact absurd ht (by decide)
  · rcases ho with rfl | rfl
    · intro e
      rcases hS.2.2.2 with ⟨hv, _⟩ | ⟨k, cap', cur', hv, _, hk, _⟩
      · rw [hv] at e; cases e
      · rw [hv] at e
        have : g = k := by simpa [Value.ownBlock] using e
        subst this
        rw [hk] at hg
        injection hg with hg
        injection hg with _ ht
        exact absurd ht (by decide)
    · intro e; cases e
/-- A stack stays while a row of ints is written. -/
theorem Stk.grown {w w' : World} {B g cap b : Nat} {xs : List Int} {ds : List (Int × Int)} {i l : Int} {v : Value} (hS : Stk w B b ds i l v) (h : IRow w B g cap xs) (hg : w.grownBy w' (some g)) : Stk w' B b ds i l v := by
  obtain ⟨cur, hc⟩ := h.blk
  refine ⟨(hg.block b hS.lt ?_).trans hS.1, hS.2.1, hS.2.2.1, ?_⟩
  · intro e
    have : b = g := by injection e
    subst this
    rw [hS.1] at hc
    injection hc with hc
    injection hc with _ ht
    exact absurd ht (by decide)
  · rcases hS.2.2.2 with h2 | ⟨k, cap', cur', hv, hk, hh, r⟩
    · exact Or.inl h2
    · refine Or.inr ⟨k, cap', cur', hv, hk, (hg.block k (hS.2.2.lt k (by rw [hv]; rfl)).2 ?_).trans hh, r⟩
      intro e
      have : k = g := by injection e
      subst this
      rw [hh] at hc
      injection hc with hc
      injection hc with _ ht
      exact absurd ht (by decide)
theorem IRow.alloc {w : World} {B g cap : Nat} {xs : List Int} (h : IRow w B g cap xs) (o : Obj) : IRow (w.alloc o) B g cap xs := World.ownsRow.alloc h o
theorem grown_below {B g : Nat} {a w w' : World} (hb : Below B a w) (hg : w.grownBy w' (some g)) (hB : B ≤ w.heap.size) (hgB : B ≤ g) : Below B a w' := hb.grown hg hB (fun k e => by injection e with e; omega)

def nodes (S : List (Int × Int × Int)) : List Int := (S.map (·.1)).reverse
def idxs (S : List (Int × Int × Int)) : List Int := (S.map (·.2.1)).reverse
def lims (S : List (Int × Int × Int)) : List Int := (S.map (·.2.2)).reverse
theorem nodes_len (S : List (Int × Int × Int)) : (nodes S).length = S.length := by simp [nodes]
theorem idxs_len (S : List (Int × Int × Int)) : (idxs S).length = S.length := by simp [idxs]
theorem lims_len (S : List (Int × Int × Int)) : (lims S).length = S.length := by simp [lims]
theorem nodes_cons (p : Int × Int × Int) (S : List (Int × Int × Int)) : nodes (p :: S) = nodes S ++ [p.1] := by simp [nodes]
theorem idxs_cons (p : Int × Int × Int) (S : List (Int × Int × Int)) : idxs (p :: S) = idxs S ++ [p.2.1] := by simp [idxs]
theorem lims_cons (p : Int × Int × Int) (S : List (Int × Int × Int)) : lims (p :: S) = lims S ++ [p.2.2] := by simp [lims]
theorem snoc_at (l : List Int) (x : Int) (k : Nat) (h : l.length = k) : (l ++ [x])[k]? = some x := by subst h; simp

/-- All of it: the stack at block b, the arena ar in the rows g0, g1, the saves S in the rows g2, g3, g4, after k operations. -/
def Rel4 (w0 wr : World) (B b n g0 g1 g2 g3 g4 k : Nat) (ar : List (Int × Int)) (S : List (Int × Int × Int)) (cur : Int) : Prop :=
  (∃ ds idx lim v xs, Stk wr B b ds idx lim v ∧ Inv ds idx lim ∧ Chain ds idx xs ∧ Chain ar cur xs ∧ SavedOK ds ar lim S ∧ ds.length ≤ k) ∧
  (IRow wr B g0 n (ar.map (·.1)) ∧ IRow wr B g1 n (ar.map (·.2)) ∧ IRow wr B g2 n (nodes S) ∧ IRow wr B g3 n (idxs S) ∧ IRow wr B g4 n (lims S)) ∧
  ar.length ≤ k ∧ S.length ≤ k ∧ Below B w0 wr
end Go.Proofs.Yteoaillidaglbaa
