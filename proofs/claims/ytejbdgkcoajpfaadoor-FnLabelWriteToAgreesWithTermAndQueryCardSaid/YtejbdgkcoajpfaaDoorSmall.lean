/- zzQuery_b3 and zzText_b3: the small query that is built prints as its text. Conditions: a field's name is not empty; the kind is a byte. -/
import Derived.Test.YtejbdgkcoajpfaaDoorComp
set_option linter.unusedVariables false
namespace Go.Proofs.YtejbdgkcoajpfaaDoor
open Go.Shelf Go.RowKit

/-- What a small query of kind k and name s appends behind l. -/
def smallF (k : Int) (s : ByteArray) (l : List UInt8) : List UInt8 :=
  if k % 4 = 0 then s.data.toList else if k % 4 = 1 then gap l ++ (46 :: s.data.toList) else if k % 4 = 2 then s.data.toList else [46]

/-- A query was made: it prints f; what was there is as it was. -/
def MkQ (f : List UInt8 → List UInt8) (w : World) (e : Ending) (w' : World) : Prop :=
  ∃ q : Nat, e = .returned (.pointer (some ⟨q, 0, none⟩)) ∧ Prints 46 w' ⟨q, 0, none⟩ f ∧ Below w.heap.size w w'

set_option maxRecDepth 100000 in
theorem zzQuery0 (k : Int) (s : ByteArray) (w : World) (h0 : 0 ≤ k) (h1 : k < 256) (hk : (k % 4 == 0) = true) :
    Calls Tryd.prog 22 #[.int .u8 k, .string s] w (MkQ (fun _ => s.data.toList) w) := by
  go_enter Tryd.func22, Tryd.ntmps22
  go_wp2
  go_ret
  refine ⟨w.heap.size + 2, rfl, ?_, ((below_fresh w _).alloc (by first | (simp; done) | (simp; omega)) _).alloc (by first | (simp; done) | (simp; omega)) _⟩
  refine query_term _ (w.heap.size + 2) ⟨w.heap.size + 1, 0, none⟩ _ (by first | (simp; done) | (simp; omega)) (by simp [go_sem]) (by simp [go_sem]) (by simp [go_sem]) (by simp [go_sem]) ?_
  refine term_func _ (w.heap.size + 1) ⟨w.heap.size, 0, none⟩ _ (by first | (simp; done) | (simp; omega)) (by simp [go_sem]) (by simp [go_sem]) (by simp [go_sem]) ?_
  exact func_name _ w.heap.size s (by first | (simp; done) | (simp; omega)) (by simp [go_sem]) (by simp [go_sem])

set_option maxRecDepth 100000 in
theorem zzQuery1 (k : Int) (s : ByteArray) (w : World) (h0 : 0 ≤ k) (h1 : k < 256) (hk0 : (k % 4 == 0) = false) (hk : (k % 4 == 1) = true) (hs : s.toList.isEmpty = false) :
    Calls Tryd.prog 22 #[.int .u8 k, .string s] w (MkQ (fun l => gap l ++ (46 :: s.data.toList)) w) := by
  go_enter Tryd.func22, Tryd.ntmps22
  go_wp2
  go_ret
  refine ⟨w.heap.size + 2, rfl, ?_, ((below_fresh w _).alloc (by first | (simp; done) | (simp; omega)) _).alloc (by first | (simp; done) | (simp; omega)) _⟩
  refine query_term _ (w.heap.size + 2) ⟨w.heap.size + 1, 0, none⟩ _ (by first | (simp; done) | (simp; omega)) (by simp [go_sem]) (by simp [go_sem]) (by simp [go_sem]) (by simp [go_sem]) ?_
  refine term_index _ (w.heap.size + 1) ⟨w.heap.size, 0, none⟩ _ (by first | (simp; done) | (simp; omega)) (by simp [go_sem]) (by simp [go_sem]) (by simp [go_sem]) ?_
  exact index_name _ w.heap.size s (by first | (simp; done) | (simp; omega)) hs (by simp [go_sem])

set_option maxRecDepth 100000 in
theorem zzQuery2 (k : Int) (s : ByteArray) (w : World) (h0 : 0 ≤ k) (h1 : k < 256) (hk0 : (k % 4 == 0) = false) (hk1 : (k % 4 == 1) = false) (hk : (k % 4 == 2) = true) :
    Calls Tryd.prog 22 #[.int .u8 k, .string s] w (MkQ (fun _ => s.data.toList) w) := by
  go_enter Tryd.func22, Tryd.ntmps22
  go_wp2
  go_ret
  refine ⟨w.heap.size + 1, rfl, ?_, (below_fresh w _).alloc (by first | (simp; done) | (simp; omega)) _⟩
  refine query_term _ (w.heap.size + 1) ⟨w.heap.size, 0, none⟩ _ (by first | (simp; done) | (simp; omega)) (by simp [go_sem]) (by simp [go_sem]) (by simp [go_sem]) (by simp [go_sem]) ?_
  exact term_number _ w.heap.size s (by first | (simp; done) | (simp; omega)) (by simp [go_sem]) (by simp [go_sem]) (by simp [go_sem])

set_option maxRecDepth 100000 in
theorem zzQuery3 (k : Int) (s : ByteArray) (w : World) (h0 : 0 ≤ k) (h1 : k < 256) (hk0 : (k % 4 == 0) = false) (hk1 : (k % 4 == 1) = false) (hk2 : (k % 4 == 2) = false) :
    Calls Tryd.prog 22 #[.int .u8 k, .string s] w (MkQ (fun _ => [46]) w) := by
  go_enter Tryd.func22, Tryd.ntmps22
  go_wp2
  go_ret
  refine ⟨w.heap.size + 1, rfl, ?_, (below_fresh w _).alloc (by first | (simp; done) | (simp; omega)) _⟩
  refine query_term _ (w.heap.size + 1) ⟨w.heap.size, 0, none⟩ _ (by first | (simp; done) | (simp; omega)) (by simp [go_sem]) (by simp [go_sem]) (by simp [go_sem]) (by simp [go_sem]) ?_
  exact term_ident _ w.heap.size (by first | (simp; done) | (simp; omega)) (by simp [go_sem]) (by simp [go_sem])

/-- zzQuery_b3. -/
theorem zzQuery (k : Int) (s : ByteArray) (w : World) (h0 : 0 ≤ k) (h1 : k < 256) (hs : k % 4 = 1 → s.toList.isEmpty = false) :
    Calls Tryd.prog 22 #[.int .u8 k, .string s] w (MkQ (smallF k s) w) := by
  by_cases e0 : k % 4 = 0
  · have e : smallF k s = fun _ => s.data.toList := by funext l; simp [smallF, e0]
    rw [e]; exact zzQuery0 k s w h0 h1 (by simp [e0])
  by_cases e1 : k % 4 = 1
  · have e : smallF k s = fun l => gap l ++ (46 :: s.data.toList) := by funext l; simp [smallF, e1]
    rw [e]; exact zzQuery1 k s w h0 h1 (by simp [e1]) (by simp [e1]) (hs e1)
  by_cases e2 : k % 4 = 2
  · have e : smallF k s = fun _ => s.data.toList := by funext l; simp [smallF, e2]
    rw [e]; exact zzQuery2 k s w h0 h1 (by simp [e2]) (by simp [e2]) (by simp [e2])
  · have e : smallF k s = fun _ => [46] := by funext l; simp [smallF, e0, e1, e2]
    rw [e]; exact zzQuery3 k s w h0 h1 (by simp [e0]) (by simp [e1]) (by simp [e2])

/-- The spelling of a small query. -/
def smallT (k : Int) (s : ByteArray) : List UInt8 :=
  if k % 4 = 0 then s.data.toList else if k % 4 = 1 then 46 :: s.data.toList else if k % 4 = 2 then s.data.toList else [46]

end Go.Proofs.YtejbdgkcoajpfaaDoor
