/- writeTo of elif clauses, of try, of label and of a binary query; the methods String and the exported writeTo callers, in the notion Prints. Condition: the text stays below 2^40 bytes. -/
import Derived.Test.YtejbdgkcoajpfaaDoorTerm
import Derived.Lib.Hide
set_option linter.unusedVariables false
namespace Go.Proofs.YtejbdgkcoajpfaaDoor
open Go.Shelf Go.RowKit

def sElif : List UInt8 := [101, 108, 105, 102, 32]
def sThen : List UInt8 := [32, 116, 104, 101, 110, 32]
def sTry : List UInt8 := [116, 114, 121, 32]
def sCatch : List UInt8 := [32, 99, 97, 116, 99, 104, 32]
def fElif (f g : List UInt8 → List UInt8) (l : List UInt8) : List UInt8 := sElif ++ f (l ++ sElif) ++ sThen ++ g (l ++ sElif ++ f (l ++ sElif) ++ sThen)
def fTry (f : List UInt8 → List UInt8) (l : List UInt8) : List UInt8 := sTry ++ f (l ++ sTry)
def fTryCatch (f g : List UInt8 → List UInt8) (l : List UInt8) : List UInt8 := sTry ++ f (l ++ sTry) ++ sCatch ++ g (l ++ sTry ++ f (l ++ sTry) ++ sCatch)

set_option maxRecDepth 100000 in
theorem ifelif_writeTo (w0 : World) (a : Nat) (x y : Addr) (f g : List UInt8 → List UInt8) (ha : a < w0.heap.size) (c0 : w0.cell? ⟨a, 0, none⟩ = some (.pointer (some x))) (c1 : w0.cell? ⟨a, 1, none⟩ = some (.pointer (some y)))
    (hx : Prints 46 w0 x f) (hy : Prints 46 w0 y g) : Prints 47 w0 ⟨a, 0, none⟩ (fElif f g) := by
  intro B b l w hB hbw hbb hlen
  have hlen' : l.length + (sElif.length + (f (l ++ sElif)).length + sThen.length + (g (l ++ sElif ++ f (l ++ sElif) ++ sThen)).length) ≤ 1099511627776 := by simp only [fElif, List.length_append] at hlen; omega
  have l1 : sElif.length = 5 := rfl
  have l2 : sThen.length = 6 := rfl
  have HL := Lib.hid hlen'
  have H1 := Lib.hid l1
  have H2 := Lib.hid l2
  clear hlen hlen' l1 l2
  have ha' : a < B := Nat.lt_of_lt_of_le ha hB
  have d0 : w.cell? ⟨a, 0, none⟩ = some (.pointer (some x)) := (hbw.cell (p := ⟨a, 0, none⟩) ha).trans c0
  have d1 : w.cell? ⟨a, 1, none⟩ = some (.pointer (some y)) := (hbw.cell (p := ⟨a, 1, none⟩) ha).trans c1
  clear c0 c1
  go_enter Tryd.func47, Tryd.ntmps47
  go_wp2_with fail
  refine (bb_WriteString B b l ⟨sElif.toArray⟩ _ hbb (by have := HL.out; simp only; omega)).mono ?_
  rintro e w1 ⟨rfl, h1, b1⟩
  have e0 : w1.cell? ⟨a, 0, none⟩ = some (.pointer (some x)) := (b1.cell (p := ⟨a, 0, none⟩) ha').trans d0
  have e1 : w1.cell? ⟨a, 1, none⟩ = some (.pointer (some y)) := (b1.cell (p := ⟨a, 1, none⟩) ha').trans d1
  clear d0 d1
  go_wp2_with fail
  refine (hx B b (l ++ sElif) _ hB (hbw.trans (b1.mono hB)) h1 (by have := HL.out; simp only [List.length_append]; omega)).mono ?_
  rintro e w2 ⟨rfl, h2, b2⟩
  have g1 : w2.cell? ⟨a, 1, none⟩ = some (.pointer (some y)) := (b2.cell (p := ⟨a, 1, none⟩) ha').trans e1
  clear e0 e1
  go_wp2_with fail
  refine (bb_WriteString B b _ ⟨sThen.toArray⟩ _ h2 (by have := HL.out; simp only [List.length_append]; omega)).mono ?_
  rintro e w3 ⟨rfl, h3, b3⟩
  have k1 : w3.cell? ⟨a, 1, none⟩ = some (.pointer (some y)) := (b3.cell (p := ⟨a, 1, none⟩) ha').trans g1
  clear g1
  go_wp2_with fail
  refine (hy B b _ _ hB (hbw.trans ((b1.trans (b2.trans b3)).mono hB)) h3 (by have := HL.out; simp only [List.length_append]; omega)).mono ?_
  rintro e w4 ⟨rfl, h4, b4⟩
  go_wp2_with fail
  go_end0
  refine ⟨rfl, ?_, b1.trans (b2.trans (b3.trans b4))⟩
  simpa only [fElif, List.append_assoc] using h4

theorem ifelif_String (w0 : World) (a : Addr) (f : List UInt8 → List UInt8) (h : Prints 47 w0 a f) (w : World) (hbw : Below w0.heap.size w0 w) (hlen : (f []).length ≤ 1099511627776) :
    Calls Tryd.prog 23 #[.pointer (some a)] w fun e w' => e = .returned (.string ⟨(f []).toArray⟩) ∧ Below w.heap.size w w' := by
  go_enter Tryd.func23, Tryd.ntmps23
  go_wp2_with fail
  refine (h w.heap.size w.heap.size [] _ hbw.size (hbw.trans ((below_fresh w _).mono hbw.size)) (bb_fresh w) (by rw [List.length_nil, Nat.zero_add]; exact hlen)).mono ?_
  rintro e w1 ⟨rfl, h1, b1⟩
  go_wp2_with fail
  refine (bb_String _ _ _ _ h1).mono ?_
  rintro e w2 ⟨rfl, h2, b2⟩
  go_wp2_with fail
  go_ret
  exact ⟨rfl, (below_fresh w _).trans (b1.trans b2)⟩

theorem try_String (w0 : World) (a : Addr) (f : List UInt8 → List UInt8) (h : Prints 48 w0 a f) (w : World) (hbw : Below w0.heap.size w0 w) (hlen : (f []).length ≤ 1099511627776) :
    Calls Tryd.prog 28 #[.pointer (some a)] w fun e w' => e = .returned (.string ⟨(f []).toArray⟩) ∧ Below w.heap.size w w' := by
  go_enter Tryd.func28, Tryd.ntmps28
  go_wp2_with fail
  refine (h w.heap.size w.heap.size [] _ hbw.size (hbw.trans ((below_fresh w _).mono hbw.size)) (bb_fresh w) (by rw [List.length_nil, Nat.zero_add]; exact hlen)).mono ?_
  rintro e w1 ⟨rfl, h1, b1⟩
  go_wp2_with fail
  refine (bb_String _ _ _ _ h1).mono ?_
  rintro e w2 ⟨rfl, h2, b2⟩
  go_wp2_with fail
  go_ret
  exact ⟨rfl, (below_fresh w _).trans (b1.trans b2)⟩

theorem label_String (w0 : World) (a : Addr) (f : List UInt8 → List UInt8) (h : Prints 43 w0 a f) (w : World) (hbw : Below w0.heap.size w0 w) (hlen : (f []).length ≤ 1099511627776) :
    Calls Tryd.prog 17 #[.pointer (some a)] w fun e w' => e = .returned (.string ⟨(f []).toArray⟩) ∧ Below w.heap.size w w' := by
  go_enter Tryd.func17, Tryd.ntmps17
  go_wp2_with fail
  refine (h w.heap.size w.heap.size [] _ hbw.size (hbw.trans ((below_fresh w _).mono hbw.size)) (bb_fresh w) (by rw [List.length_nil, Nat.zero_add]; exact hlen)).mono ?_
  rintro e w1 ⟨rfl, h1, b1⟩
  go_wp2_with fail
  refine (bb_String _ _ _ _ h1).mono ?_
  rintro e w2 ⟨rfl, h2, b2⟩
  go_wp2_with fail
  go_ret
  exact ⟨rfl, (below_fresh w _).trans (b1.trans b2)⟩

theorem term_String (w0 : World) (a : Addr) (f : List UInt8 → List UInt8) (h : Prints 45 w0 a f) (w : World) (hbw : Below w0.heap.size w0 w) (hlen : (f []).length ≤ 1099511627776) :
    Calls Tryd.prog 18 #[.pointer (some a)] w fun e w' => e = .returned (.string ⟨(f []).toArray⟩) ∧ Below w.heap.size w w' := by
  go_enter Tryd.func18, Tryd.ntmps18
  go_wp2_with fail
  refine (h w.heap.size w.heap.size [] _ hbw.size (hbw.trans ((below_fresh w _).mono hbw.size)) (bb_fresh w) (by rw [List.length_nil, Nat.zero_add]; exact hlen)).mono ?_
  rintro e w1 ⟨rfl, h1, b1⟩
  go_wp2_with fail
  refine (bb_String _ _ _ _ h1).mono ?_
  rintro e w2 ⟨rfl, h2, b2⟩
  go_wp2_with fail
  go_ret
  exact ⟨rfl, (below_fresh w _).trans (b1.trans b2)⟩

theorem query_String (w0 : World) (a : Addr) (f : List UInt8 → List UInt8) (h : Prints 46 w0 a f) (w : World) (hbw : Below w0.heap.size w0 w) (hlen : (f []).length ≤ 1099511627776) :
    Calls Tryd.prog 19 #[.pointer (some a)] w fun e w' => e = .returned (.string ⟨(f []).toArray⟩) ∧ Below w.heap.size w w' := by
  go_enter Tryd.func19, Tryd.ntmps19
  go_wp2_with fail
  refine (h w.heap.size w.heap.size [] _ hbw.size (hbw.trans ((below_fresh w _).mono hbw.size)) (bb_fresh w) (by rw [List.length_nil, Nat.zero_add]; exact hlen)).mono ?_
  rintro e w1 ⟨rfl, h1, b1⟩
  go_wp2_with fail
  refine (bb_String _ _ _ _ h1).mono ?_
  rintro e w2 ⟨rfl, h2, b2⟩
  go_wp2_with fail
  go_ret
  exact ⟨rfl, (below_fresh w _).trans (b1.trans b2)⟩

theorem ifelif_ZZ (w0 : World) (a : Addr) (f : List UInt8 → List UInt8) (h : Prints 47 w0 a f) (p : ByteArray) (w : World) (hbw : Below w0.heap.size w0 w) (hlen : p.data.toList.length + (f p.data.toList).length ≤ 1099511627776) :
    Calls Tryd.prog 26 #[.pointer (some a), .string p] w fun e w' => e = .returned (.string ⟨(p.data.toList ++ f p.data.toList).toArray⟩) ∧ Below w.heap.size w w' := by
  go_enter Tryd.func26, Tryd.ntmps26
  go_wp2_with fail
  refine (bb_WriteString w.heap.size w.heap.size [] p _ (bb_fresh w) (by rw [List.length_nil]; omega)).mono ?_
  rintro e w1 ⟨rfl, h1, b1⟩
  rw [List.nil_append] at h1
  go_wp2_with fail
  refine (h w.heap.size w.heap.size p.data.toList w1 hbw.size (hbw.trans (((below_fresh w _).trans b1).mono hbw.size)) h1 hlen).mono ?_
  rintro e w2 ⟨rfl, h2, b2⟩
  go_wp2_with fail
  refine (bb_String _ _ _ _ h2).mono ?_
  rintro e w3 ⟨rfl, h3, b3⟩
  go_wp2_with fail
  go_ret
  exact ⟨rfl, (below_fresh w _).trans (b1.trans (b2.trans b3))⟩

theorem try_ZZ (w0 : World) (a : Addr) (f : List UInt8 → List UInt8) (h : Prints 48 w0 a f) (p : ByteArray) (w : World) (hbw : Below w0.heap.size w0 w) (hlen : p.data.toList.length + (f p.data.toList).length ≤ 1099511627776) :
    Calls Tryd.prog 32 #[.pointer (some a), .string p] w fun e w' => e = .returned (.string ⟨(p.data.toList ++ f p.data.toList).toArray⟩) ∧ Below w.heap.size w w' := by
  go_enter Tryd.func32, Tryd.ntmps32
  go_wp2_with fail
  refine (bb_WriteString w.heap.size w.heap.size [] p _ (bb_fresh w) (by rw [List.length_nil]; omega)).mono ?_
  rintro e w1 ⟨rfl, h1, b1⟩
  rw [List.nil_append] at h1
  go_wp2_with fail
  refine (h w.heap.size w.heap.size p.data.toList w1 hbw.size (hbw.trans (((below_fresh w _).trans b1).mono hbw.size)) h1 hlen).mono ?_
  rintro e w2 ⟨rfl, h2, b2⟩
  go_wp2_with fail
  refine (bb_String _ _ _ _ h2).mono ?_
  rintro e w3 ⟨rfl, h3, b3⟩
  go_wp2_with fail
  go_ret
  exact ⟨rfl, (below_fresh w _).trans (b1.trans (b2.trans b3))⟩

theorem label_ZZ (w0 : World) (a : Addr) (f : List UInt8 → List UInt8) (h : Prints 43 w0 a f) (p : ByteArray) (w : World) (hbw : Below w0.heap.size w0 w) (hlen : p.data.toList.length + (f p.data.toList).length ≤ 1099511627776) :
    Calls Tryd.prog 16 #[.pointer (some a), .string p] w fun e w' => e = .returned (.string ⟨(p.data.toList ++ f p.data.toList).toArray⟩) ∧ Below w.heap.size w w' := by
  go_enter Tryd.func16, Tryd.ntmps16
  go_wp2_with fail
  refine (bb_WriteString w.heap.size w.heap.size [] p _ (bb_fresh w) (by rw [List.length_nil]; omega)).mono ?_
  rintro e w1 ⟨rfl, h1, b1⟩
  rw [List.nil_append] at h1
  go_wp2_with fail
  refine (h w.heap.size w.heap.size p.data.toList w1 hbw.size (hbw.trans (((below_fresh w _).trans b1).mono hbw.size)) h1 hlen).mono ?_
  rintro e w2 ⟨rfl, h2, b2⟩
  go_wp2_with fail
  refine (bb_String _ _ _ _ h2).mono ?_
  rintro e w3 ⟨rfl, h3, b3⟩
  go_wp2_with fail
  go_ret
  exact ⟨rfl, (below_fresh w _).trans (b1.trans (b2.trans b3))⟩

end Go.Proofs.YtejbdgkcoajpfaaDoor
