/- writeTo of try and of label, in the notion Prints; zzPipe, zzHasSpace and zzNumQuery. Condition: the text stays below 2^40 bytes. -/
import Derived.Test.YtejbdgkcoajpfaaDoorCmp2
import Derived.Test.YtejbdgkcoajpfaaDoorZz
set_option linter.unusedVariables false
namespace Go.Proofs.YtejbdgkcoajpfaaDoor
open Go.Shelf Go.RowKit

set_option maxRecDepth 100000 in
theorem try_bare (w0 : World) (a : Nat) (x : Addr) (f : List UInt8 → List UInt8) (ha : a < w0.heap.size) (c0 : w0.cell? ⟨a, 0, none⟩ = some (.pointer (some x))) (c1 : w0.cell? ⟨a, 1, none⟩ = some (.pointer none))
    (hx : Prints 46 w0 x f) : Prints 48 w0 ⟨a, 0, none⟩ (fTry f) := by
  intro B b l w hB hbw hbb hlen
  have HL := Lib.hid hlen
  clear hlen
  have ha' : a < B := Nat.lt_of_lt_of_le ha hB
  have d0 : w.cell? ⟨a, 0, none⟩ = some (.pointer (some x)) := (hbw.cell (p := ⟨a, 0, none⟩) ha).trans c0
  have d1 : w.cell? ⟨a, 1, none⟩ = some (.pointer none) := (hbw.cell (p := ⟨a, 1, none⟩) ha).trans c1
  clear c0 c1
  go_enter Tryd.func48, Tryd.ntmps48
  go_wp2_with fail
  refine (bb_WriteString B b l ⟨sTry.toArray⟩ _ hbb (by have := HL.out; simp only [fTry, List.length_append] at this ⊢; omega)).mono ?_
  rintro e w1 ⟨rfl, h1, b1⟩
  have e0 : w1.cell? ⟨a, 0, none⟩ = some (.pointer (some x)) := (b1.cell (p := ⟨a, 0, none⟩) ha').trans d0
  have e1 : w1.cell? ⟨a, 1, none⟩ = some (.pointer none) := (b1.cell (p := ⟨a, 1, none⟩) ha').trans d1
  clear d0 d1
  go_wp2_with fail
  refine (hx B b (l ++ sTry) _ hB (hbw.trans (b1.mono hB)) h1 (by have := HL.out; simp only [fTry, List.length_append] at this ⊢; omega)).mono ?_
  rintro e w2 ⟨rfl, h2, b2⟩
  have g1 : w2.cell? ⟨a, 1, none⟩ = some (.pointer none) := (b2.cell (p := ⟨a, 1, none⟩) ha').trans e1
  clear e0 e1
  go_wp2_with fail
  go_end0
  refine ⟨rfl, ?_, b1.trans b2⟩
  simpa only [fTry, List.append_assoc] using h2

set_option maxRecDepth 100000 in
theorem try_catch (w0 : World) (a : Nat) (x y : Addr) (f g : List UInt8 → List UInt8) (ha : a < w0.heap.size) (c0 : w0.cell? ⟨a, 0, none⟩ = some (.pointer (some x))) (c1 : w0.cell? ⟨a, 1, none⟩ = some (.pointer (some y)))
    (hx : Prints 46 w0 x f) (hy : Prints 46 w0 y g) : Prints 48 w0 ⟨a, 0, none⟩ (fTryCatch f g) := by
  intro B b l w hB hbw hbb hlen
  have HL := Lib.hid hlen
  clear hlen
  have ha' : a < B := Nat.lt_of_lt_of_le ha hB
  have d0 : w.cell? ⟨a, 0, none⟩ = some (.pointer (some x)) := (hbw.cell (p := ⟨a, 0, none⟩) ha).trans c0
  have d1 : w.cell? ⟨a, 1, none⟩ = some (.pointer (some y)) := (hbw.cell (p := ⟨a, 1, none⟩) ha).trans c1
  clear c0 c1
  go_enter Tryd.func48, Tryd.ntmps48
  go_wp2_with fail
  refine (bb_WriteString B b l ⟨sTry.toArray⟩ _ hbb (by have := HL.out; simp only [fTryCatch, List.length_append] at this ⊢; omega)).mono ?_
  rintro e w1 ⟨rfl, h1, b1⟩
  have e0 : w1.cell? ⟨a, 0, none⟩ = some (.pointer (some x)) := (b1.cell (p := ⟨a, 0, none⟩) ha').trans d0
  have e1 : w1.cell? ⟨a, 1, none⟩ = some (.pointer (some y)) := (b1.cell (p := ⟨a, 1, none⟩) ha').trans d1
  clear d0 d1
  go_wp2_with fail
  refine (hx B b (l ++ sTry) _ hB (hbw.trans (b1.mono hB)) h1 (by have := HL.out; simp only [fTryCatch, List.length_append] at this ⊢; omega)).mono ?_
  rintro e w2 ⟨rfl, h2, b2⟩
  have g1 : w2.cell? ⟨a, 1, none⟩ = some (.pointer (some y)) := (b2.cell (p := ⟨a, 1, none⟩) ha').trans e1
  clear e0 e1
  go_wp2_with fail
  refine (bb_WriteString B b _ ⟨sCatch.toArray⟩ _ h2 (by have := HL.out; simp only [fTryCatch, List.length_append] at this ⊢; omega)).mono ?_
  rintro e w3 ⟨rfl, h3, b3⟩
  have k1 : w3.cell? ⟨a, 1, none⟩ = some (.pointer (some y)) := (b3.cell (p := ⟨a, 1, none⟩) ha').trans g1
  clear g1
  go_wp2_with fail
  refine (hy B b _ _ hB (hbw.trans ((b1.trans (b2.trans b3)).mono hB)) h3 (by have := HL.out; simp only [fTryCatch, List.length_append] at this ⊢; omega)).mono ?_
  rintro e w4 ⟨rfl, h4, b4⟩
  go_wp2_with fail
  go_end0
  refine ⟨rfl, ?_, b1.trans (b2.trans (b3.trans b4))⟩
  simpa only [fTryCatch, List.append_assoc] using h4

def sLabel : List UInt8 := [108, 97, 98, 101, 108, 32]
def sBar : List UInt8 := [32, 124, 32]
def fLabel (s : List UInt8) (f : List UInt8 → List UInt8) (l : List UInt8) : List UInt8 := sLabel ++ s ++ sBar ++ f (l ++ sLabel ++ s ++ sBar)

set_option maxRecDepth 100000 in
theorem label_writeTo (w0 : World) (a : Nat) (s : ByteArray) (x : Addr) (f : List UInt8 → List UInt8) (ha : a < w0.heap.size) (c0 : w0.cell? ⟨a, 0, none⟩ = some (.string s)) (c1 : w0.cell? ⟨a, 1, none⟩ = some (.pointer (some x)))
    (hx : Prints 46 w0 x f) : Prints 43 w0 ⟨a, 0, none⟩ (fLabel s.data.toList f) := by
  intro B b l w hB hbw hbb hlen
  have HL := Lib.hid hlen
  clear hlen
  have ha' : a < B := Nat.lt_of_lt_of_le ha hB
  have d0 : w.cell? ⟨a, 0, none⟩ = some (.string s) := (hbw.cell (p := ⟨a, 0, none⟩) ha).trans c0
  have d1 : w.cell? ⟨a, 1, none⟩ = some (.pointer (some x)) := (hbw.cell (p := ⟨a, 1, none⟩) ha).trans c1
  clear c0 c1
  go_enter Tryd.func43, Tryd.ntmps43
  go_wp2_with fail
  refine (bb_WriteString B b l ⟨sLabel.toArray⟩ _ hbb (by have := HL.out; simp only [fLabel, List.length_append] at this ⊢; omega)).mono ?_
  rintro e w1 ⟨rfl, h1, b1⟩
  have e0 : w1.cell? ⟨a, 0, none⟩ = some (.string s) := (b1.cell (p := ⟨a, 0, none⟩) ha').trans d0
  have e1 : w1.cell? ⟨a, 1, none⟩ = some (.pointer (some x)) := (b1.cell (p := ⟨a, 1, none⟩) ha').trans d1
  clear d0 d1
  go_wp2_with fail
  refine (bb_WriteString B b _ s _ h1 (by have := HL.out; simp only [fLabel, List.length_append] at this ⊢; omega)).mono ?_
  rintro e w2 ⟨rfl, h2, b2⟩
  have g1 : w2.cell? ⟨a, 1, none⟩ = some (.pointer (some x)) := (b2.cell (p := ⟨a, 1, none⟩) ha').trans e1
  clear e0 e1
  go_wp2_with fail
  refine (bb_WriteString B b _ ⟨sBar.toArray⟩ _ h2 (by have := HL.out; simp only [fLabel, List.length_append] at this ⊢; omega)).mono ?_
  rintro e w3 ⟨rfl, h3, b3⟩
  have k1 : w3.cell? ⟨a, 1, none⟩ = some (.pointer (some x)) := (b3.cell (p := ⟨a, 1, none⟩) ha').trans g1
  clear g1
  go_wp2_with fail
  refine (hx B b _ _ hB (hbw.trans ((b1.trans (b2.trans b3)).mono hB)) h3 (by have := HL.out; simp only [fLabel, List.length_append] at this ⊢; omega)).mono ?_
  rintro e w4 ⟨rfl, h4, b4⟩
  go_wp2_with fail
  go_end0
  refine ⟨rfl, ?_, b1.trans (b2.trans (b3.trans b4))⟩
  simpa only [fLabel, List.append_assoc] using h4

set_option maxRecDepth 100000 in
theorem zzNum (s : ByteArray) (w : World) :
    Calls Tryd.prog 15 #[.string s] w (MkQ (fun _ => s.data.toList) w) := by
  go_enter Tryd.func15, Tryd.ntmps15
  go_wp2
  go_ret
  refine ⟨w.heap.size + 1, rfl, ?_, (below_fresh w _).alloc (by first | (simp; done) | (simp; omega)) _⟩
  refine query_term _ (w.heap.size + 1) ⟨w.heap.size, 0, none⟩ _ (by first | (simp; done) | (simp; omega)) (by simp [go_sem]) (by simp [go_sem]) (by simp [go_sem]) (by simp [go_sem]) ?_
  exact term_number _ w.heap.size s (by first | (simp; done) | (simp; omega)) (by simp [go_sem]) (by simp [go_sem]) (by simp [go_sem])

set_option maxRecDepth 100000 in
theorem zzPipe (k1 k2 op : Int) (s t : ByteArray) (w : World) (a0 : 0 ≤ k1) (a1 : k1 < 256) (c0 : 0 ≤ k2) (c1 : k2 < 256) (o0 : 0 ≤ op) (o1 : op < 256) (hb1 : k1 % 4 = 1 → s.toList.isEmpty = false) (hb2 : k2 % 4 = 1 → t.toList.isEmpty = false) :
    Calls Tryd.prog 34 #[.int .u8 k1, .string s, .int .u8 k2, .string t, .int .u8 op] w (MkQ (fBin (op % 24 + 1) (smallF k1 s) (smallF k2 t)) w) := by
  have HB1 := Lib.hid hb1
  have HB2 := Lib.hid hb2
  clear hb1 hb2
  have p0 : 0 ≤ op % 24 := by omega
  have p1 : op % 24 < 24 := by omega
  go_enter Tryd.func34, Tryd.ntmps34
  go_wp2_with fail
  refine (zzQuery k1 s _ a0 a1 HB1.out).mono ?_
  rintro e w1 ⟨q1, rfl, P1, l1⟩
  go_wp2_with fail
  refine (zzQuery k2 t _ c0 c1 HB2.out).mono ?_
  rintro e w2 ⟨q2, rfl, P2, l2⟩
  go_wp2_with fail
  go_ret
  refine ⟨w2.heap.size, rfl, ?_, l1.trans ((l2.mono l1.size).trans ((below_fresh w2 _).mono (Nat.le_trans l1.size l2.size)))⟩
  exact query_bin _ w2.heap.size ⟨q1, 0, none⟩ ⟨q2, 0, none⟩ (op % 24 + 1) _ _ (by simp) (by omega) (by omega) (by simp [go_sem]) (by simp [go_sem]) (by simp [go_sem]) (by simp [go_sem]) (by simp [go_sem]) (by simp [go_sem]) (by simp [go_sem]) (by simp [go_sem]) ((P1.later l2).later (below_fresh w2 _)) (P2.later (below_fresh w2 _))
end Go.Proofs.YtejbdgkcoajpfaaDoor
