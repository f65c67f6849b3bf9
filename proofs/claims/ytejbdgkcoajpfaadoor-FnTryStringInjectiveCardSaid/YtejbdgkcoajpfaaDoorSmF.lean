/- zzQuery_b3 once more: the query prints its text in every world that holds the blocks that the call made (whatever became of elder ones); zzHasSpace_b3. Conditions: a field's name is not empty; the kind is a byte. -/
import Derived.Test.YtejbdgkcoajpfaaDoorCmp3
set_option linter.unusedVariables false
namespace Go.Proofs.YtejbdgkcoajpfaaDoor
open Go.Shelf Go.RowKit

/-- wv holds what w holds in the blocks from lo on. -/
def FromOn (lo : Nat) (w wv : World) : Prop := w.heap.size ≤ wv.heap.size ∧ ∀ i, lo ≤ i → i < w.heap.size → wv.heap[i]? = w.heap[i]?

theorem FromOn.refl (lo : Nat) (w : World) : FromOn lo w w := ⟨Nat.le_refl _, fun _ _ _ => rfl⟩
theorem FromOn.cell {lo : Nat} {w wv : World} (h : FromOn lo w wv) {i o : Nat} (h1 : lo ≤ i) (h2 : i < w.heap.size) : wv.cell? ⟨i, o, none⟩ = w.cell? ⟨i, o, none⟩ :=
  World.cell?_of_block (w := w) (h.2 i h1 h2)
theorem FromOn.below {lo : Nat} {w wv wz : World} (h : FromOn lo w wv) (hb : Below wv.heap.size wv wz) : FromOn lo w wz :=
  ⟨Nat.le_trans h.1 hb.size, fun i h1 h2 => (hb.block i (Nat.lt_of_lt_of_le h2 h.1)).trans (h.2 i h1 h2)⟩
theorem FromOn.setCell {lo : Nat} {w wv : World} (h : FromOn lo w wv) {p : Addr} (hp : p.block < lo) (v : Value) : FromOn lo w (wv.setCell p v) := by
  refine ⟨?_, fun i h1 h2 => ?_⟩
  · exact Nat.le_trans h.1 ((Below.refl 0 wv).setCell (p := p) (Nat.zero_le _) v).size
  · exact (Below.heap_setCell wv p v i (by omega)).trans (h.2 i h1 h2)

def MkQF (f : List UInt8 → List UInt8) (w : World) (e : Ending) (w' : World) : Prop :=
  ∃ q : Nat, e = .returned (.pointer (some ⟨q, 0, none⟩)) ∧ (∀ wv, FromOn w.heap.size w' wv → Prints 46 wv ⟨q, 0, none⟩ f) ∧ Below w.heap.size w w'

theorem MkQF.mk {f : List UInt8 → List UInt8} {w w' : World} {e : Ending} (h : MkQF f w e w') : MkQ f w e w' := by
  obtain ⟨q, h1, h2, h3⟩ := h
  exact ⟨q, h1, h2 w' (FromOn.refl _ _), h3⟩

set_option maxRecDepth 100000 in
theorem zzQueryF0 (k : Int) (s : ByteArray) (w : World) (h0 : 0 ≤ k) (h1 : k < 256) (hk : (k % 4 == 0) = true) :
    Calls Tryd.prog 22 #[.int .u8 k, .string s] w (MkQF (fun _ => s.data.toList) w) := by
  go_enter Tryd.func22, Tryd.ntmps22
  go_wp2
  go_ret
  refine ⟨w.heap.size + 2, rfl, ?_, ((below_fresh w _).alloc (by first | (simp; done) | (simp; omega)) _).alloc (by first | (simp; done) | (simp; omega)) _⟩
  intro wv hf
  have hz : w.heap.size + 3 ≤ wv.heap.size := by simpa using hf.1
  refine query_term _ (w.heap.size + 2) ⟨w.heap.size + 1, 0, none⟩ _ (by omega) ((hf.cell (by omega) (by simp)).trans (by simp [go_sem])) ((hf.cell (by omega) (by simp)).trans (by simp [go_sem])) ((hf.cell (by omega) (by simp)).trans (by simp [go_sem])) ((hf.cell (by omega) (by simp)).trans (by simp [go_sem])) ?_
  refine term_func _ (w.heap.size + 1) ⟨w.heap.size, 0, none⟩ _ (by omega) ((hf.cell (by omega) (by simp; try omega)).trans (by simp [go_sem])) ((hf.cell (by omega) (by simp; try omega)).trans (by simp [go_sem])) ((hf.cell (by omega) (by simp; try omega)).trans (by simp [go_sem])) ?_
  exact func_name _ w.heap.size s (by omega) ((hf.cell (by omega) (by simp; try omega)).trans (by simp [go_sem])) ((hf.cell (by omega) (by simp; try omega)).trans (by simp [go_sem]))

set_option maxRecDepth 100000 in
theorem zzQueryF1 (k : Int) (s : ByteArray) (w : World) (h0 : 0 ≤ k) (h1 : k < 256) (hk0 : (k % 4 == 0) = false) (hk : (k % 4 == 1) = true) (hs : s.toList.isEmpty = false) :
    Calls Tryd.prog 22 #[.int .u8 k, .string s] w (MkQF (fun l => gap l ++ (46 :: s.data.toList)) w) := by
  go_enter Tryd.func22, Tryd.ntmps22
  go_wp2
  go_ret
  refine ⟨w.heap.size + 2, rfl, ?_, ((below_fresh w _).alloc (by first | (simp; done) | (simp; omega)) _).alloc (by first | (simp; done) | (simp; omega)) _⟩
  intro wv hf
  have hz : w.heap.size + 3 ≤ wv.heap.size := by simpa using hf.1
  refine query_term _ (w.heap.size + 2) ⟨w.heap.size + 1, 0, none⟩ _ (by omega) ((hf.cell (by omega) (by simp)).trans (by simp [go_sem])) ((hf.cell (by omega) (by simp)).trans (by simp [go_sem])) ((hf.cell (by omega) (by simp)).trans (by simp [go_sem])) ((hf.cell (by omega) (by simp)).trans (by simp [go_sem])) ?_
  refine term_index _ (w.heap.size + 1) ⟨w.heap.size, 0, none⟩ _ (by omega) ((hf.cell (by omega) (by simp; try omega)).trans (by simp [go_sem])) ((hf.cell (by omega) (by simp; try omega)).trans (by simp [go_sem])) ((hf.cell (by omega) (by simp; try omega)).trans (by simp [go_sem])) ?_
  exact index_name _ w.heap.size s (by omega) hs ((hf.cell (by omega) (by simp; try omega)).trans (by simp [go_sem]))

set_option maxRecDepth 100000 in
theorem zzQueryF2 (k : Int) (s : ByteArray) (w : World) (h0 : 0 ≤ k) (h1 : k < 256) (hk0 : (k % 4 == 0) = false) (hk1 : (k % 4 == 1) = false) (hk : (k % 4 == 2) = true) :
    Calls Tryd.prog 22 #[.int .u8 k, .string s] w (MkQF (fun _ => s.data.toList) w) := by
  go_enter Tryd.func22, Tryd.ntmps22
  go_wp2
  go_ret
  refine ⟨w.heap.size + 1, rfl, ?_, (below_fresh w _).alloc (by first | (simp; done) | (simp; omega)) _⟩
  intro wv hf
  have hz : w.heap.size + 2 ≤ wv.heap.size := by simpa using hf.1
  refine query_term _ (w.heap.size + 1) ⟨w.heap.size, 0, none⟩ _ (by omega) ((hf.cell (by omega) (by simp)).trans (by simp [go_sem])) ((hf.cell (by omega) (by simp)).trans (by simp [go_sem])) ((hf.cell (by omega) (by simp)).trans (by simp [go_sem])) ((hf.cell (by omega) (by simp)).trans (by simp [go_sem])) ?_
  exact term_number _ w.heap.size s (by omega) ((hf.cell (by omega) (by simp; try omega)).trans (by simp [go_sem])) ((hf.cell (by omega) (by simp; try omega)).trans (by simp [go_sem])) ((hf.cell (by omega) (by simp; try omega)).trans (by simp [go_sem]))

set_option maxRecDepth 100000 in
theorem zzQueryF3 (k : Int) (s : ByteArray) (w : World) (h0 : 0 ≤ k) (h1 : k < 256) (hk0 : (k % 4 == 0) = false) (hk1 : (k % 4 == 1) = false) (hk2 : (k % 4 == 2) = false) :
    Calls Tryd.prog 22 #[.int .u8 k, .string s] w (MkQF (fun _ => [46]) w) := by
  go_enter Tryd.func22, Tryd.ntmps22
  go_wp2
  go_ret
  refine ⟨w.heap.size + 1, rfl, ?_, (below_fresh w _).alloc (by first | (simp; done) | (simp; omega)) _⟩
  intro wv hf
  have hz : w.heap.size + 2 ≤ wv.heap.size := by simpa using hf.1
  refine query_term _ (w.heap.size + 1) ⟨w.heap.size, 0, none⟩ _ (by omega) ((hf.cell (by omega) (by simp)).trans (by simp [go_sem])) ((hf.cell (by omega) (by simp)).trans (by simp [go_sem])) ((hf.cell (by omega) (by simp)).trans (by simp [go_sem])) ((hf.cell (by omega) (by simp)).trans (by simp [go_sem])) ?_
  exact term_ident _ w.heap.size (by omega) ((hf.cell (by omega) (by simp; try omega)).trans (by simp [go_sem])) ((hf.cell (by omega) (by simp; try omega)).trans (by simp [go_sem]))

/-- zzQuery_b3. -/
theorem zzQueryF (k : Int) (s : ByteArray) (w : World) (h0 : 0 ≤ k) (h1 : k < 256) (hs : k % 4 = 1 → s.toList.isEmpty = false) :
    Calls Tryd.prog 22 #[.int .u8 k, .string s] w (MkQF (smallF k s) w) := by
  by_cases e0 : k % 4 = 0
  · have e : smallF k s = fun _ => s.data.toList := by funext l; simp [smallF, e0]
    rw [e]; exact zzQueryF0 k s w h0 h1 (by simp [e0])
  by_cases e1 : k % 4 = 1
  · have e : smallF k s = fun l => gap l ++ (46 :: s.data.toList) := by funext l; simp [smallF, e1]
    rw [e]; exact zzQueryF1 k s w h0 h1 (by simp [e1]) (by simp [e1]) (hs e1)
  by_cases e2 : k % 4 = 2
  · have e : smallF k s = fun _ => s.data.toList := by funext l; simp [smallF, e2]
    rw [e]; exact zzQueryF2 k s w h0 h1 (by simp [e2]) (by simp [e2]) (by simp [e2])
  · have e : smallF k s = fun _ => [46] := by funext l; simp [smallF, e0, e1, e2]
    rw [e]; exact zzQueryF3 k s w h0 h1 (by simp [e0]) (by simp [e1]) (by simp [e2])
end Go.Proofs.YtejbdgkcoajpfaaDoor
