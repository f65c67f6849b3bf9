/- writeTo of reduce and of foreach, in the notion Prints; their String methods and the exported writeTo callers; terms of these. Condition: the text stays below 2^40 bytes. -/
import Derived.Test.YtboekgedfhdaaaaDoorRQ
set_option linter.unusedVariables false
namespace Go.Proofs.YtboekgedfhdaaaaDoor
open Go.Shelf Go.RowKit

def sReduce : List UInt8 := [114, 101, 100, 117, 99, 101, 32]
theorem gap_sReduce (x : List UInt8) : gap (x ++ sReduce) = [] := by simp [gap, gapB, sReduce]
def sForeach : List UInt8 := [102, 111, 114, 101, 97, 99, 104, 32]
theorem gap_sForeach (x : List UInt8) : gap (x ++ sForeach) = [] := by simp [gap, gapB, sForeach]
def sAs : List UInt8 := [32, 97, 115, 32]
theorem gap_sAs (x : List UInt8) : gap (x ++ sAs) = [] := by simp [gap, gapB, sAs]
def sOpen : List UInt8 := [32, 40]
theorem gap_sOpen (x : List UInt8) : gap (x ++ sOpen) = [] := by simp [gap, gapB, sOpen]
def sSemi : List UInt8 := [59, 32]
theorem gap_sSemi (x : List UInt8) : gap (x ++ sSemi) = [] := by simp [gap, gapB, sSemi]

set_option maxRecDepth 100000 in
set_option maxHeartbeats 1000000 in
theorem reduce_writeTo (w0 : World) (a : Nat) (x : Addr) (fx : List UInt8 → List UInt8) (Tx : List UInt8) (y : Addr) (fy : List UInt8 → List UInt8) (Ty : List UInt8) (z : Addr) (fz : List UInt8 → List UInt8) (Tz : List UInt8) (u : Addr) (fu : List UInt8 → List UInt8) (Tu : List UInt8) (ha : a < w0.heap.size)
    (c0 : w0.cell? ⟨a, 0, none⟩ = some (.pointer (some x))) (c1 : w0.cell? ⟨a, 1, none⟩ = some (.pointer (some y))) (c2 : w0.cell? ⟨a, 2, none⟩ = some (.pointer (some z))) (c3 : w0.cell? ⟨a, 3, none⟩ = some (.pointer (some u))) 
    (hx : Prints 37 w0 x fx) (tx : ∀ l, gap l = [] → fx l = Tx) (hy : Prints 39 w0 y fy) (ty : ∀ l, gap l = [] → fy l = Ty) (hz : Prints 37 w0 z fz) (tz : ∀ l, gap l = [] → fz l = Tz) (hu : Prints 37 w0 u fu) (tu : ∀ l, gap l = [] → fu l = Tu) :
    Prints 34 w0 ⟨a, 0, none⟩ (fun _ => sReduce ++ Tx ++ sAs ++ Ty ++ sOpen ++ Tz ++ sSemi ++ Tu ++ [41]) := by
  intro B b l w hB hbw hbb hlen
  have HL := Lib.hid hlen
  clear hlen
  have HTx := Lib.hid tx
  clear tx
  have HTy := Lib.hid ty
  clear ty
  have HTz := Lib.hid tz
  clear tz
  have HTu := Lib.hid tu
  clear tu
  have ha' : a < B := Nat.lt_of_lt_of_le ha hB
  have d00 : w.cell? ⟨a, 0, none⟩ = some (.pointer (some x)) := (hbw.cell (p := ⟨a, 0, none⟩) ha).trans c0
  have d01 : w.cell? ⟨a, 1, none⟩ = some (.pointer (some y)) := (hbw.cell (p := ⟨a, 1, none⟩) ha).trans c1
  have d02 : w.cell? ⟨a, 2, none⟩ = some (.pointer (some z)) := (hbw.cell (p := ⟨a, 2, none⟩) ha).trans c2
  have d03 : w.cell? ⟨a, 3, none⟩ = some (.pointer (some u)) := (hbw.cell (p := ⟨a, 3, none⟩) ha).trans c3
  clear c0 c1 c2 c3
  have bt0 : Below B w w := Below.refl _ _
  have h0 := hbb
  clear hbb
  go_enter Tryd.func34, Tryd.ntmps34
  go_wp2_with fail
  refine (bb_WriteString B b (l) ⟨sReduce.toArray⟩ _ h0 (by have := HL.out; simp only [List.length_append, List.length_cons, List.length_nil] at this ⊢; omega)).mono ?_
  rintro e w1 ⟨rfl, h1, b1⟩
  have bt1 : Below B w w1 := bt0.trans b1
  have d10 : w1.cell? ⟨a, 0, none⟩ = some (.pointer (some x)) := (b1.cell (p := ⟨a, 0, none⟩) ha').trans d00
  have d11 : w1.cell? ⟨a, 1, none⟩ = some (.pointer (some y)) := (b1.cell (p := ⟨a, 1, none⟩) ha').trans d01
  have d12 : w1.cell? ⟨a, 2, none⟩ = some (.pointer (some z)) := (b1.cell (p := ⟨a, 2, none⟩) ha').trans d02
  have d13 : w1.cell? ⟨a, 3, none⟩ = some (.pointer (some u)) := (b1.cell (p := ⟨a, 3, none⟩) ha').trans d03
  clear h0 b1 bt0 d00 d01 d02 d03
  go_wp2_with fail
  have eTx : fx (l ++ sReduce) = Tx := HTx.out _ (gap_sReduce _)
  refine (hx B b (l ++ sReduce) _ hB (hbw.trans (bt1.mono hB)) h1 (by have := HL.out; rw [eTx]; simp only [List.length_append, List.length_cons, List.length_nil] at this ⊢; omega)).mono ?_
  rintro e w2 ⟨rfl, h2, b2⟩
  rw [eTx] at h2
  clear eTx
  have bt2 : Below B w w2 := bt1.trans b2
  have d21 : w2.cell? ⟨a, 1, none⟩ = some (.pointer (some y)) := (b2.cell (p := ⟨a, 1, none⟩) ha').trans d11
  have d22 : w2.cell? ⟨a, 2, none⟩ = some (.pointer (some z)) := (b2.cell (p := ⟨a, 2, none⟩) ha').trans d12
  have d23 : w2.cell? ⟨a, 3, none⟩ = some (.pointer (some u)) := (b2.cell (p := ⟨a, 3, none⟩) ha').trans d13
  clear h1 b2 bt1 d10 d11 d12 d13
  go_wp2_with fail
  refine (bb_WriteString B b (l ++ sReduce ++ Tx) ⟨sAs.toArray⟩ _ h2 (by have := HL.out; simp only [List.length_append, List.length_cons, List.length_nil] at this ⊢; omega)).mono ?_
  rintro e w3 ⟨rfl, h3, b3⟩
  have bt3 : Below B w w3 := bt2.trans b3
  have d31 : w3.cell? ⟨a, 1, none⟩ = some (.pointer (some y)) := (b3.cell (p := ⟨a, 1, none⟩) ha').trans d21
  have d32 : w3.cell? ⟨a, 2, none⟩ = some (.pointer (some z)) := (b3.cell (p := ⟨a, 2, none⟩) ha').trans d22
  have d33 : w3.cell? ⟨a, 3, none⟩ = some (.pointer (some u)) := (b3.cell (p := ⟨a, 3, none⟩) ha').trans d23
  clear h2 b3 bt2 d21 d22 d23
  go_wp2_with fail
  have eTy : fy (l ++ sReduce ++ Tx ++ sAs) = Ty := HTy.out _ (gap_sAs _)
  refine (hy B b (l ++ sReduce ++ Tx ++ sAs) _ hB (hbw.trans (bt3.mono hB)) h3 (by have := HL.out; rw [eTy]; simp only [List.length_append, List.length_cons, List.length_nil] at this ⊢; omega)).mono ?_
  rintro e w4 ⟨rfl, h4, b4⟩
  rw [eTy] at h4
  clear eTy
  have bt4 : Below B w w4 := bt3.trans b4
  have d42 : w4.cell? ⟨a, 2, none⟩ = some (.pointer (some z)) := (b4.cell (p := ⟨a, 2, none⟩) ha').trans d32
  have d43 : w4.cell? ⟨a, 3, none⟩ = some (.pointer (some u)) := (b4.cell (p := ⟨a, 3, none⟩) ha').trans d33
  clear h3 b4 bt3 d31 d32 d33
  go_wp2_with fail
  refine (bb_WriteString B b (l ++ sReduce ++ Tx ++ sAs ++ Ty) ⟨sOpen.toArray⟩ _ h4 (by have := HL.out; simp only [List.length_append, List.length_cons, List.length_nil] at this ⊢; omega)).mono ?_
  rintro e w5 ⟨rfl, h5, b5⟩
  have bt5 : Below B w w5 := bt4.trans b5
  have d52 : w5.cell? ⟨a, 2, none⟩ = some (.pointer (some z)) := (b5.cell (p := ⟨a, 2, none⟩) ha').trans d42
  have d53 : w5.cell? ⟨a, 3, none⟩ = some (.pointer (some u)) := (b5.cell (p := ⟨a, 3, none⟩) ha').trans d43
  clear h4 b5 bt4 d42 d43
  go_wp2_with fail
  have eTz : fz (l ++ sReduce ++ Tx ++ sAs ++ Ty ++ sOpen) = Tz := HTz.out _ (gap_sOpen _)
  refine (hz B b (l ++ sReduce ++ Tx ++ sAs ++ Ty ++ sOpen) _ hB (hbw.trans (bt5.mono hB)) h5 (by have := HL.out; rw [eTz]; simp only [List.length_append, List.length_cons, List.length_nil] at this ⊢; omega)).mono ?_
  rintro e w6 ⟨rfl, h6, b6⟩
  rw [eTz] at h6
  clear eTz
  have bt6 : Below B w w6 := bt5.trans b6
  have d63 : w6.cell? ⟨a, 3, none⟩ = some (.pointer (some u)) := (b6.cell (p := ⟨a, 3, none⟩) ha').trans d53
  clear h5 b6 bt5 d52 d53
  go_wp2_with fail
  refine (bb_WriteString B b (l ++ sReduce ++ Tx ++ sAs ++ Ty ++ sOpen ++ Tz) ⟨sSemi.toArray⟩ _ h6 (by have := HL.out; simp only [List.length_append, List.length_cons, List.length_nil] at this ⊢; omega)).mono ?_
  rintro e w7 ⟨rfl, h7, b7⟩
  have bt7 : Below B w w7 := bt6.trans b7
  have d73 : w7.cell? ⟨a, 3, none⟩ = some (.pointer (some u)) := (b7.cell (p := ⟨a, 3, none⟩) ha').trans d63
  clear h6 b7 bt6 d63
  go_wp2_with fail
  have eTu : fu (l ++ sReduce ++ Tx ++ sAs ++ Ty ++ sOpen ++ Tz ++ sSemi) = Tu := HTu.out _ (gap_sSemi _)
  refine (hu B b (l ++ sReduce ++ Tx ++ sAs ++ Ty ++ sOpen ++ Tz ++ sSemi) _ hB (hbw.trans (bt7.mono hB)) h7 (by have := HL.out; rw [eTu]; simp only [List.length_append, List.length_cons, List.length_nil] at this ⊢; omega)).mono ?_
  rintro e w8 ⟨rfl, h8, b8⟩
  rw [eTu] at h8
  clear eTu
  have bt8 : Below B w w8 := bt7.trans b8
  clear h7 b8 bt7 d73
  go_wp2_with fail
  refine (bb_WriteByte B b (l ++ sReduce ++ Tx ++ sAs ++ Ty ++ sOpen ++ Tz ++ sSemi ++ Tu) 41 41 _ h8 rfl (by have := HL.out; simp only [List.length_append, List.length_cons, List.length_nil] at this ⊢; omega)).mono ?_
  rintro e w9 ⟨rfl, h9, b9⟩
  have bt9 : Below B w w9 := bt8.trans b9
  clear h8 b9 bt8 
  go_wp2_with fail
  go_end0
  refine ⟨rfl, ?_, bt9⟩
  simpa only [List.append_assoc] using h9

set_option maxRecDepth 100000 in
set_option maxHeartbeats 1000000 in
theorem foreach_bare (w0 : World) (a : Nat) (x : Addr) (fx : List UInt8 → List UInt8) (Tx : List UInt8) (y : Addr) (fy : List UInt8 → List UInt8) (Ty : List UInt8) (z : Addr) (fz : List UInt8 → List UInt8) (Tz : List UInt8) (u : Addr) (fu : List UInt8 → List UInt8) (Tu : List UInt8) (ha : a < w0.heap.size)
    (c0 : w0.cell? ⟨a, 0, none⟩ = some (.pointer (some x))) (c1 : w0.cell? ⟨a, 1, none⟩ = some (.pointer (some y))) (c2 : w0.cell? ⟨a, 2, none⟩ = some (.pointer (some z))) (c3 : w0.cell? ⟨a, 3, none⟩ = some (.pointer (some u))) (c4 : w0.cell? ⟨a, 4, none⟩ = some (.pointer none))
    (hx : Prints 37 w0 x fx) (tx : ∀ l, gap l = [] → fx l = Tx) (hy : Prints 39 w0 y fy) (ty : ∀ l, gap l = [] → fy l = Ty) (hz : Prints 37 w0 z fz) (tz : ∀ l, gap l = [] → fz l = Tz) (hu : Prints 37 w0 u fu) (tu : ∀ l, gap l = [] → fu l = Tu) :
    Prints 36 w0 ⟨a, 0, none⟩ (fun _ => sForeach ++ Tx ++ sAs ++ Ty ++ sOpen ++ Tz ++ sSemi ++ Tu ++ [41]) := by
  intro B b l w hB hbw hbb hlen
  have HL := Lib.hid hlen
  clear hlen
  have HTx := Lib.hid tx
  clear tx
  have HTy := Lib.hid ty
  clear ty
  have HTz := Lib.hid tz
  clear tz
  have HTu := Lib.hid tu
  clear tu
  have ha' : a < B := Nat.lt_of_lt_of_le ha hB
  have d00 : w.cell? ⟨a, 0, none⟩ = some (.pointer (some x)) := (hbw.cell (p := ⟨a, 0, none⟩) ha).trans c0
  have d01 : w.cell? ⟨a, 1, none⟩ = some (.pointer (some y)) := (hbw.cell (p := ⟨a, 1, none⟩) ha).trans c1
  have d02 : w.cell? ⟨a, 2, none⟩ = some (.pointer (some z)) := (hbw.cell (p := ⟨a, 2, none⟩) ha).trans c2
  have d03 : w.cell? ⟨a, 3, none⟩ = some (.pointer (some u)) := (hbw.cell (p := ⟨a, 3, none⟩) ha).trans c3
  have d04 : w.cell? ⟨a, 4, none⟩ = some (.pointer none) := (hbw.cell (p := ⟨a, 4, none⟩) ha).trans c4
  clear c0 c1 c2 c3 c4
  have bt0 : Below B w w := Below.refl _ _
  have h0 := hbb
  clear hbb
  go_enter Tryd.func36, Tryd.ntmps36
  go_wp2_with fail
  refine (bb_WriteString B b (l) ⟨sForeach.toArray⟩ _ h0 (by have := HL.out; simp only [List.length_append, List.length_cons, List.length_nil] at this ⊢; omega)).mono ?_
  rintro e w1 ⟨rfl, h1, b1⟩
  have bt1 : Below B w w1 := bt0.trans b1
  have d10 : w1.cell? ⟨a, 0, none⟩ = some (.pointer (some x)) := (b1.cell (p := ⟨a, 0, none⟩) ha').trans d00
  have d11 : w1.cell? ⟨a, 1, none⟩ = some (.pointer (some y)) := (b1.cell (p := ⟨a, 1, none⟩) ha').trans d01
  have d12 : w1.cell? ⟨a, 2, none⟩ = some (.pointer (some z)) := (b1.cell (p := ⟨a, 2, none⟩) ha').trans d02
  have d13 : w1.cell? ⟨a, 3, none⟩ = some (.pointer (some u)) := (b1.cell (p := ⟨a, 3, none⟩) ha').trans d03
  have d14 : w1.cell? ⟨a, 4, none⟩ = some (.pointer none) := (b1.cell (p := ⟨a, 4, none⟩) ha').trans d04
  clear h0 b1 bt0 d00 d01 d02 d03 d04
  go_wp2_with fail
  have eTx : fx (l ++ sForeach) = Tx := HTx.out _ (gap_sForeach _)
  refine (hx B b (l ++ sForeach) _ hB (hbw.trans (bt1.mono hB)) h1 (by have := HL.out; rw [eTx]; simp only [List.length_append, List.length_cons, List.length_nil] at this ⊢; omega)).mono ?_
  rintro e w2 ⟨rfl, h2, b2⟩
  rw [eTx] at h2
  clear eTx
  have bt2 : Below B w w2 := bt1.trans b2
  have d21 : w2.cell? ⟨a, 1, none⟩ = some (.pointer (some y)) := (b2.cell (p := ⟨a, 1, none⟩) ha').trans d11
  have d22 : w2.cell? ⟨a, 2, none⟩ = some (.pointer (some z)) := (b2.cell (p := ⟨a, 2, none⟩) ha').trans d12
  have d23 : w2.cell? ⟨a, 3, none⟩ = some (.pointer (some u)) := (b2.cell (p := ⟨a, 3, none⟩) ha').trans d13
  have d24 : w2.cell? ⟨a, 4, none⟩ = some (.pointer none) := (b2.cell (p := ⟨a, 4, none⟩) ha').trans d14
  clear h1 b2 bt1 d10 d11 d12 d13 d14
  go_wp2_with fail
  refine (bb_WriteString B b (l ++ sForeach ++ Tx) ⟨sAs.toArray⟩ _ h2 (by have := HL.out; simp only [List.length_append, List.length_cons, List.length_nil] at this ⊢; omega)).mono ?_
  rintro e w3 ⟨rfl, h3, b3⟩
  have bt3 : Below B w w3 := bt2.trans b3
  have d31 : w3.cell? ⟨a, 1, none⟩ = some (.pointer (some y)) := (b3.cell (p := ⟨a, 1, none⟩) ha').trans d21
  have d32 : w3.cell? ⟨a, 2, none⟩ = some (.pointer (some z)) := (b3.cell (p := ⟨a, 2, none⟩) ha').trans d22
  have d33 : w3.cell? ⟨a, 3, none⟩ = some (.pointer (some u)) := (b3.cell (p := ⟨a, 3, none⟩) ha').trans d23
  have d34 : w3.cell? ⟨a, 4, none⟩ = some (.pointer none) := (b3.cell (p := ⟨a, 4, none⟩) ha').trans d24
  clear h2 b3 bt2 d21 d22 d23 d24
  go_wp2_with fail
  have eTy : fy (l ++ sForeach ++ Tx ++ sAs) = Ty := HTy.out _ (gap_sAs _)
  refine (hy B b (l ++ sForeach ++ Tx ++ sAs) _ hB (hbw.trans (bt3.mono hB)) h3 (by have := HL.out; rw [eTy]; simp only [List.length_append, List.length_cons, List.length_nil] at this ⊢; omega)).mono ?_
  rintro e w4 ⟨rfl, h4, b4⟩
  rw [eTy] at h4
  clear eTy
  have bt4 : Below B w w4 := bt3.trans b4
  have d42 : w4.cell? ⟨a, 2, none⟩ = some (.pointer (some z)) := (b4.cell (p := ⟨a, 2, none⟩) ha').trans d32
  have d43 : w4.cell? ⟨a, 3, none⟩ = some (.pointer (some u)) := (b4.cell (p := ⟨a, 3, none⟩) ha').trans d33
  have d44 : w4.cell? ⟨a, 4, none⟩ = some (.pointer none) := (b4.cell (p := ⟨a, 4, none⟩) ha').trans d34
  clear h3 b4 bt3 d31 d32 d33 d34
  go_wp2_with fail
  refine (bb_WriteString B b (l ++ sForeach ++ Tx ++ sAs ++ Ty) ⟨sOpen.toArray⟩ _ h4 (by have := HL.out; simp only [List.length_append, List.length_cons, List.length_nil] at this ⊢; omega)).mono ?_
  rintro e w5 ⟨rfl, h5, b5⟩
  have bt5 : Below B w w5 := bt4.trans b5
  have d52 : w5.cell? ⟨a, 2, none⟩ = some (.pointer (some z)) := (b5.cell (p := ⟨a, 2, none⟩) ha').trans d42
  have d53 : w5.cell? ⟨a, 3, none⟩ = some (.pointer (some u)) := (b5.cell (p := ⟨a, 3, none⟩) ha').trans d43
  have d54 : w5.cell? ⟨a, 4, none⟩ = some (.pointer none) := (b5.cell (p := ⟨a, 4, none⟩) ha').trans d44
  clear h4 b5 bt4 d42 d43 d44
  go_wp2_with fail
  have eTz : fz (l ++ sForeach ++ Tx ++ sAs ++ Ty ++ sOpen) = Tz := HTz.out _ (gap_sOpen _)
  refine (hz B b (l ++ sForeach ++ Tx ++ sAs ++ Ty ++ sOpen) _ hB (hbw.trans (bt5.mono hB)) h5 (by have := HL.out; rw [eTz]; simp only [List.length_append, List.length_cons, List.length_nil] at this ⊢; omega)).mono ?_
  rintro e w6 ⟨rfl, h6, b6⟩
  rw [eTz] at h6
  clear eTz
  have bt6 : Below B w w6 := bt5.trans b6
  have d63 : w6.cell? ⟨a, 3, none⟩ = some (.pointer (some u)) := (b6.cell (p := ⟨a, 3, none⟩) ha').trans d53
  have d64 : w6.cell? ⟨a, 4, none⟩ = some (.pointer none) := (b6.cell (p := ⟨a, 4, none⟩) ha').trans d54
  clear h5 b6 bt5 d52 d53 d54
  go_wp2_with fail
  refine (bb_WriteString B b (l ++ sForeach ++ Tx ++ sAs ++ Ty ++ sOpen ++ Tz) ⟨sSemi.toArray⟩ _ h6 (by have := HL.out; simp only [List.length_append, List.length_cons, List.length_nil] at this ⊢; omega)).mono ?_
  rintro e w7 ⟨rfl, h7, b7⟩
  have bt7 : Below B w w7 := bt6.trans b7
  have d73 : w7.cell? ⟨a, 3, none⟩ = some (.pointer (some u)) := (b7.cell (p := ⟨a, 3, none⟩) ha').trans d63
  have d74 : w7.cell? ⟨a, 4, none⟩ = some (.pointer none) := (b7.cell (p := ⟨a, 4, none⟩) ha').trans d64
  clear h6 b7 bt6 d63 d64
  go_wp2_with fail
  have eTu : fu (l ++ sForeach ++ Tx ++ sAs ++ Ty ++ sOpen ++ Tz ++ sSemi) = Tu := HTu.out _ (gap_sSemi _)
  refine (hu B b (l ++ sForeach ++ Tx ++ sAs ++ Ty ++ sOpen ++ Tz ++ sSemi) _ hB (hbw.trans (bt7.mono hB)) h7 (by have := HL.out; rw [eTu]; simp only [List.length_append, List.length_cons, List.length_nil] at this ⊢; omega)).mono ?_
  rintro e w8 ⟨rfl, h8, b8⟩
  rw [eTu] at h8
  clear eTu
  have bt8 : Below B w w8 := bt7.trans b8
  have d84 : w8.cell? ⟨a, 4, none⟩ = some (.pointer none) := (b8.cell (p := ⟨a, 4, none⟩) ha').trans d74
  clear h7 b8 bt7 d73 d74
  go_wp2_with fail
  refine (bb_WriteByte B b (l ++ sForeach ++ Tx ++ sAs ++ Ty ++ sOpen ++ Tz ++ sSemi ++ Tu) 41 41 _ h8 rfl (by have := HL.out; simp only [List.length_append, List.length_cons, List.length_nil] at this ⊢; omega)).mono ?_
  rintro e w9 ⟨rfl, h9, b9⟩
  have bt9 : Below B w w9 := bt8.trans b9
  have d94 : w9.cell? ⟨a, 4, none⟩ = some (.pointer none) := (b9.cell (p := ⟨a, 4, none⟩) ha').trans d84
  clear h8 b9 bt8 d84
  go_wp2_with fail
  go_end0
  refine ⟨rfl, ?_, bt9⟩
  simpa only [List.append_assoc] using h9

set_option maxRecDepth 100000 in
set_option maxHeartbeats 1000000 in
theorem foreach_ext (w0 : World) (a : Nat) (x : Addr) (fx : List UInt8 → List UInt8) (Tx : List UInt8) (y : Addr) (fy : List UInt8 → List UInt8) (Ty : List UInt8) (z : Addr) (fz : List UInt8 → List UInt8) (Tz : List UInt8) (u : Addr) (fu : List UInt8 → List UInt8) (Tu : List UInt8) (v : Addr) (fv : List UInt8 → List UInt8) (Tv : List UInt8) (ha : a < w0.heap.size)
    (c0 : w0.cell? ⟨a, 0, none⟩ = some (.pointer (some x))) (c1 : w0.cell? ⟨a, 1, none⟩ = some (.pointer (some y))) (c2 : w0.cell? ⟨a, 2, none⟩ = some (.pointer (some z))) (c3 : w0.cell? ⟨a, 3, none⟩ = some (.pointer (some u))) (c4 : w0.cell? ⟨a, 4, none⟩ = some (.pointer (some v))) 
    (hx : Prints 37 w0 x fx) (tx : ∀ l, gap l = [] → fx l = Tx) (hy : Prints 39 w0 y fy) (ty : ∀ l, gap l = [] → fy l = Ty) (hz : Prints 37 w0 z fz) (tz : ∀ l, gap l = [] → fz l = Tz) (hu : Prints 37 w0 u fu) (tu : ∀ l, gap l = [] → fu l = Tu) (hv : Prints 37 w0 v fv) (tv : ∀ l, gap l = [] → fv l = Tv) :
    Prints 36 w0 ⟨a, 0, none⟩ (fun _ => sForeach ++ Tx ++ sAs ++ Ty ++ sOpen ++ Tz ++ sSemi ++ Tu ++ sSemi ++ Tv ++ [41]) := by
  intro B b l w hB hbw hbb hlen
  have HL := Lib.hid hlen
  clear hlen
  have HTx := Lib.hid tx
  clear tx
  have HTy := Lib.hid ty
  clear ty
  have HTz := Lib.hid tz
  clear tz
  have HTu := Lib.hid tu
  clear tu
  have HTv := Lib.hid tv
  clear tv
  have ha' : a < B := Nat.lt_of_lt_of_le ha hB
  have d00 : w.cell? ⟨a, 0, none⟩ = some (.pointer (some x)) := (hbw.cell (p := ⟨a, 0, none⟩) ha).trans c0
  have d01 : w.cell? ⟨a, 1, none⟩ = some (.pointer (some y)) := (hbw.cell (p := ⟨a, 1, none⟩) ha).trans c1
  have d02 : w.cell? ⟨a, 2, none⟩ = some (.pointer (some z)) := (hbw.cell (p := ⟨a, 2, none⟩) ha).trans c2
  have d03 : w.cell? ⟨a, 3, none⟩ = some (.pointer (some u)) := (hbw.cell (p := ⟨a, 3, none⟩) ha).trans c3
  have d04 : w.cell? ⟨a, 4, none⟩ = some (.pointer (some v)) := (hbw.cell (p := ⟨a, 4, none⟩) ha).trans c4
  clear c0 c1 c2 c3 c4
  have bt0 : Below B w w := Below.refl _ _
  have h0 := hbb
  clear hbb
  go_enter Tryd.func36, Tryd.ntmps36
  go_wp2_with fail
  refine (bb_WriteString B b (l) ⟨sForeach.toArray⟩ _ h0 (by have := HL.out; simp only [List.length_append, List.length_cons, List.length_nil] at this ⊢; omega)).mono ?_
  rintro e w1 ⟨rfl, h1, b1⟩
  have bt1 : Below B w w1 := bt0.trans b1
  have d10 : w1.cell? ⟨a, 0, none⟩ = some (.pointer (some x)) := (b1.cell (p := ⟨a, 0, none⟩) ha').trans d00
  have d11 : w1.cell? ⟨a, 1, none⟩ = some (.pointer (some y)) := (b1.cell (p := ⟨a, 1, none⟩) ha').trans d01
  have d12 : w1.cell? ⟨a, 2, none⟩ = some (.pointer (some z)) := (b1.cell (p := ⟨a, 2, none⟩) ha').trans d02
  have d13 : w1.cell? ⟨a, 3, none⟩ = some (.pointer (some u)) := (b1.cell (p := ⟨a, 3, none⟩) ha').trans d03
  have d14 : w1.cell? ⟨a, 4, none⟩ = some (.pointer (some v)) := (b1.cell (p := ⟨a, 4, none⟩) ha').trans d04
  clear h0 b1 bt0 d00 d01 d02 d03 d04
  go_wp2_with fail
  have eTx : fx (l ++ sForeach) = Tx := HTx.out _ (gap_sForeach _)
  refine (hx B b (l ++ sForeach) _ hB (hbw.trans (bt1.mono hB)) h1 (by have := HL.out; rw [eTx]; simp only [List.length_append, List.length_cons, List.length_nil] at this ⊢; omega)).mono ?_
  rintro e w2 ⟨rfl, h2, b2⟩
  rw [eTx] at h2
  clear eTx
  have bt2 : Below B w w2 := bt1.trans b2
  have d21 : w2.cell? ⟨a, 1, none⟩ = some (.pointer (some y)) := (b2.cell (p := ⟨a, 1, none⟩) ha').trans d11
  have d22 : w2.cell? ⟨a, 2, none⟩ = some (.pointer (some z)) := (b2.cell (p := ⟨a, 2, none⟩) ha').trans d12
  have d23 : w2.cell? ⟨a, 3, none⟩ = some (.pointer (some u)) := (b2.cell (p := ⟨a, 3, none⟩) ha').trans d13
  have d24 : w2.cell? ⟨a, 4, none⟩ = some (.pointer (some v)) := (b2.cell (p := ⟨a, 4, none⟩) ha').trans d14
  clear h1 b2 bt1 d10 d11 d12 d13 d14
  go_wp2_with fail
  refine (bb_WriteString B b (l ++ sForeach ++ Tx) ⟨sAs.toArray⟩ _ h2 (by have := HL.out; simp only [List.length_append, List.length_cons, List.length_nil] at this ⊢; omega)).mono ?_
  rintro e w3 ⟨rfl, h3, b3⟩
  have bt3 : Below B w w3 := bt2.trans b3
  have d31 : w3.cell? ⟨a, 1, none⟩ = some (.pointer (some y)) := (b3.cell (p := ⟨a, 1, none⟩) ha').trans d21
  have d32 : w3.cell? ⟨a, 2, none⟩ = some (.pointer (some z)) := (b3.cell (p := ⟨a, 2, none⟩) ha').trans d22
  have d33 : w3.cell? ⟨a, 3, none⟩ = some (.pointer (some u)) := (b3.cell (p := ⟨a, 3, none⟩) ha').trans d23
  have d34 : w3.cell? ⟨a, 4, none⟩ = some (.pointer (some v)) := (b3.cell (p := ⟨a, 4, none⟩) ha').trans d24
  clear h2 b3 bt2 d21 d22 d23 d24
  go_wp2_with fail
  have eTy : fy (l ++ sForeach ++ Tx ++ sAs) = Ty := HTy.out _ (gap_sAs _)
  refine (hy B b (l ++ sForeach ++ Tx ++ sAs) _ hB (hbw.trans (bt3.mono hB)) h3 (by have := HL.out; rw [eTy]; simp only [List.length_append, List.length_cons, List.length_nil] at this ⊢; omega)).mono ?_
  rintro e w4 ⟨rfl, h4, b4⟩
  rw [eTy] at h4
  clear eTy
  have bt4 : Below B w w4 := bt3.trans b4
  have d42 : w4.cell? ⟨a, 2, none⟩ = some (.pointer (some z)) := (b4.cell (p := ⟨a, 2, none⟩) ha').trans d32
  have d43 : w4.cell? ⟨a, 3, none⟩ = some (.pointer (some u)) := (b4.cell (p := ⟨a, 3, none⟩) ha').trans d33
  have d44 : w4.cell? ⟨a, 4, none⟩ = some (.pointer (some v)) := (b4.cell (p := ⟨a, 4, none⟩) ha').trans d34
  clear h3 b4 bt3 d31 d32 d33 d34
  go_wp2_with fail
  refine (bb_WriteString B b (l ++ sForeach ++ Tx ++ sAs ++ Ty) ⟨sOpen.toArray⟩ _ h4 (by have := HL.out; simp only [List.length_append, List.length_cons, List.length_nil] at this ⊢; omega)).mono ?_
  rintro e w5 ⟨rfl, h5, b5⟩
  have bt5 : Below B w w5 := bt4.trans b5
  have d52 : w5.cell? ⟨a, 2, none⟩ = some (.pointer (some z)) := (b5.cell (p := ⟨a, 2, none⟩) ha').trans d42
  have d53 : w5.cell? ⟨a, 3, none⟩ = some (.pointer (some u)) := (b5.cell (p := ⟨a, 3, none⟩) ha').trans d43
  have d54 : w5.cell? ⟨a, 4, none⟩ = some (.pointer (some v)) := (b5.cell (p := ⟨a, 4, none⟩) ha').trans d44
  clear h4 b5 bt4 d42 d43 d44
  go_wp2_with fail
  have eTz : fz (l ++ sForeach ++ Tx ++ sAs ++ Ty ++ sOpen) = Tz := HTz.out _ (gap_sOpen _)
  refine (hz B b (l ++ sForeach ++ Tx ++ sAs ++ Ty ++ sOpen) _ hB (hbw.trans (bt5.mono hB)) h5 (by have := HL.out; rw [eTz]; simp only [List.length_append, List.length_cons, List.length_nil] at this ⊢; omega)).mono ?_
  rintro e w6 ⟨rfl, h6, b6⟩
  rw [eTz] at h6
  clear eTz
  have bt6 : Below B w w6 := bt5.trans b6
  have d63 : w6.cell? ⟨a, 3, none⟩ = some (.pointer (some u)) := (b6.cell (p := ⟨a, 3, none⟩) ha').trans d53
  have d64 : w6.cell? ⟨a, 4, none⟩ = some (.pointer (some v)) := (b6.cell (p := ⟨a, 4, none⟩) ha').trans d54
  clear h5 b6 bt5 d52 d53 d54
  go_wp2_with fail
  refine (bb_WriteString B b (l ++ sForeach ++ Tx ++ sAs ++ Ty ++ sOpen ++ Tz) ⟨sSemi.toArray⟩ _ h6 (by have := HL.out; simp only [List.length_append, List.length_cons, List.length_nil] at this ⊢; omega)).mono ?_
  rintro e w7 ⟨rfl, h7, b7⟩
  have bt7 : Below B w w7 := bt6.trans b7
  have d73 : w7.cell? ⟨a, 3, none⟩ = some (.pointer (some u)) := (b7.cell (p := ⟨a, 3, none⟩) ha').trans d63
  have d74 : w7.cell? ⟨a, 4, none⟩ = some (.pointer (some v)) := (b7.cell (p := ⟨a, 4, none⟩) ha').trans d64
  clear h6 b7 bt6 d63 d64
  go_wp2_with fail
  have eTu : fu (l ++ sForeach ++ Tx ++ sAs ++ Ty ++ sOpen ++ Tz ++ sSemi) = Tu := HTu.out _ (gap_sSemi _)
  refine (hu B b (l ++ sForeach ++ Tx ++ sAs ++ Ty ++ sOpen ++ Tz ++ sSemi) _ hB (hbw.trans (bt7.mono hB)) h7 (by have := HL.out; rw [eTu]; simp only [List.length_append, List.length_cons, List.length_nil] at this ⊢; omega)).mono ?_
  rintro e w8 ⟨rfl, h8, b8⟩
  rw [eTu] at h8
  clear eTu
  have bt8 : Below B w w8 := bt7.trans b8
  have d84 : w8.cell? ⟨a, 4, none⟩ = some (.pointer (some v)) := (b8.cell (p := ⟨a, 4, none⟩) ha').trans d74
  clear h7 b8 bt7 d73 d74
  go_wp2_with fail
  refine (bb_WriteString B b (l ++ sForeach ++ Tx ++ sAs ++ Ty ++ sOpen ++ Tz ++ sSemi ++ Tu) ⟨sSemi.toArray⟩ _ h8 (by have := HL.out; simp only [List.length_append, List.length_cons, List.length_nil] at this ⊢; omega)).mono ?_
  rintro e w9 ⟨rfl, h9, b9⟩
  have bt9 : Below B w w9 := bt8.trans b9
  have d94 : w9.cell? ⟨a, 4, none⟩ = some (.pointer (some v)) := (b9.cell (p := ⟨a, 4, none⟩) ha').trans d84
  clear h8 b9 bt8 d84
  go_wp2_with fail
  have eTv : fv (l ++ sForeach ++ Tx ++ sAs ++ Ty ++ sOpen ++ Tz ++ sSemi ++ Tu ++ sSemi) = Tv := HTv.out _ (gap_sSemi _)
  refine (hv B b (l ++ sForeach ++ Tx ++ sAs ++ Ty ++ sOpen ++ Tz ++ sSemi ++ Tu ++ sSemi) _ hB (hbw.trans (bt9.mono hB)) h9 (by have := HL.out; rw [eTv]; simp only [List.length_append, List.length_cons, List.length_nil] at this ⊢; omega)).mono ?_
  rintro e w10 ⟨rfl, h10, b10⟩
  rw [eTv] at h10
  clear eTv
  have bt10 : Below B w w10 := bt9.trans b10
  clear h9 b10 bt9 d94
  go_wp2_with fail
  refine (bb_WriteByte B b (l ++ sForeach ++ Tx ++ sAs ++ Ty ++ sOpen ++ Tz ++ sSemi ++ Tu ++ sSemi ++ Tv) 41 41 _ h10 rfl (by have := HL.out; simp only [List.length_append, List.length_cons, List.length_nil] at this ⊢; omega)).mono ?_
  rintro e w11 ⟨rfl, h11, b11⟩
  have bt11 : Below B w w11 := bt10.trans b11
  clear h10 b11 bt10 
  go_wp2_with fail
  go_end0
  refine ⟨rfl, ?_, bt11⟩
  simpa only [List.append_assoc] using h11

theorem reduce_String (w0 : World) (a : Addr) (f : List UInt8 → List UInt8) (h : Prints 34 w0 a f) (T : List UInt8) (hT : f [] = T) (w : World) (hbw : Below w0.heap.size w0 w) (hlen : T.length ≤ 1099511627776) :
    Calls Tryd.prog 16 #[.pointer (some a)] w fun e w' => e = .returned (.string ⟨T.toArray⟩) ∧ Below w.heap.size w w' := by
  subst hT
  go_enter Tryd.func16, Tryd.ntmps16
  go_wp2_with fail
  refine (h w.heap.size w.heap.size [] _ hbw.size (hbw.trans ((below_fresh w _).mono hbw.size)) (bb_fresh w) (by rw [List.length_nil, Nat.zero_add]; exact hlen)).mono ?_
  rintro e w1 ⟨rfl, h1, b1⟩
  go_wp2_with fail
  refine (bb_String _ _ _ _ h1).mono ?_
  rintro e w2 ⟨rfl, h2, b2⟩
  go_wp2_with fail
  go_ret
  exact ⟨rfl, (below_fresh w _).trans (b1.trans b2)⟩

theorem foreach_String (w0 : World) (a : Addr) (f : List UInt8 → List UInt8) (h : Prints 36 w0 a f) (T : List UInt8) (hT : f [] = T) (w : World) (hbw : Below w0.heap.size w0 w) (hlen : T.length ≤ 1099511627776) :
    Calls Tryd.prog 20 #[.pointer (some a)] w fun e w' => e = .returned (.string ⟨T.toArray⟩) ∧ Below w.heap.size w w' := by
  subst hT
  go_enter Tryd.func20, Tryd.ntmps20
  go_wp2_with fail
  refine (h w.heap.size w.heap.size [] _ hbw.size (hbw.trans ((below_fresh w _).mono hbw.size)) (bb_fresh w) (by rw [List.length_nil, Nat.zero_add]; exact hlen)).mono ?_
  rintro e w1 ⟨rfl, h1, b1⟩
  go_wp2_with fail
  refine (bb_String _ _ _ _ h1).mono ?_
  rintro e w2 ⟨rfl, h2, b2⟩
  go_wp2_with fail
  go_ret
  exact ⟨rfl, (below_fresh w _).trans (b1.trans b2)⟩

theorem query_String (w0 : World) (a : Addr) (f : List UInt8 → List UInt8) (h : Prints 37 w0 a f) (T : List UInt8) (hT : f [] = T) (w : World) (hbw : Below w0.heap.size w0 w) (hlen : T.length ≤ 1099511627776) :
    Calls Tryd.prog 26 #[.pointer (some a)] w fun e w' => e = .returned (.string ⟨T.toArray⟩) ∧ Below w.heap.size w w' := by
  subst hT
  go_enter Tryd.func26, Tryd.ntmps26
  go_wp2_with fail
  refine (h w.heap.size w.heap.size [] _ hbw.size (hbw.trans ((below_fresh w _).mono hbw.size)) (bb_fresh w) (by rw [List.length_nil, Nat.zero_add]; exact hlen)).mono ?_
  rintro e w1 ⟨rfl, h1, b1⟩
  go_wp2_with fail
  refine (bb_String _ _ _ _ h1).mono ?_
  rintro e w2 ⟨rfl, h2, b2⟩
  go_wp2_with fail
  go_ret
  exact ⟨rfl, (below_fresh w _).trans (b1.trans b2)⟩

theorem reduce_ZZ (w0 : World) (a : Addr) (f : List UInt8 → List UInt8) (h : Prints 34 w0 a f) (p : ByteArray) (T : List UInt8) (hT : f p.data.toList = T) (w : World) (hbw : Below w0.heap.size w0 w) (hlen : p.data.toList.length + T.length ≤ 1099511627776) :
    Calls Tryd.prog 15 #[.pointer (some a), .string p] w fun e w' => e = .returned (.string ⟨(p.data.toList ++ T).toArray⟩) ∧ Below w.heap.size w w' := by
  subst hT
  go_enter Tryd.func15, Tryd.ntmps15
  go_wp2_with fail
  refine (bb_WriteString w.heap.size w.heap.size [] p _ (bb_fresh w) (by rw [List.length_nil]; omega)).mono ?_
  rintro e w1 ⟨rfl, h1, b1⟩
  rw [List.nil_append] at h1
  go_wp2_with fail
  refine (h w.heap.size w.heap.size p.data.toList w1 hbw.size (hbw.trans (((below_fresh w _).trans b1).mono hbw.size)) h1 hlen).mono ?_
  rintro e w2 ⟨rfl, h2, b2⟩
  go_wp2_with fail
  refine (bb_String _ _ _ _ h2).mono ?_
  rintro e w3 ⟨rfl, h3, b3⟩
  go_wp2_with fail
  go_ret
  exact ⟨rfl, (below_fresh w _).trans (b1.trans (b2.trans b3))⟩

theorem foreach_ZZ (w0 : World) (a : Addr) (f : List UInt8 → List UInt8) (h : Prints 36 w0 a f) (p : ByteArray) (T : List UInt8) (hT : f p.data.toList = T) (w : World) (hbw : Below w0.heap.size w0 w) (hlen : p.data.toList.length + T.length ≤ 1099511627776) :
    Calls Tryd.prog 19 #[.pointer (some a), .string p] w fun e w' => e = .returned (.string ⟨(p.data.toList ++ T).toArray⟩) ∧ Below w.heap.size w w' := by
  subst hT
  go_enter Tryd.func19, Tryd.ntmps19
  go_wp2_with fail
  refine (bb_WriteString w.heap.size w.heap.size [] p _ (bb_fresh w) (by rw [List.length_nil]; omega)).mono ?_
  rintro e w1 ⟨rfl, h1, b1⟩
  rw [List.nil_append] at h1
  go_wp2_with fail
  refine (h w.heap.size w.heap.size p.data.toList w1 hbw.size (hbw.trans (((below_fresh w _).trans b1).mono hbw.size)) h1 hlen).mono ?_
  rintro e w2 ⟨rfl, h2, b2⟩
  go_wp2_with fail
  refine (bb_String _ _ _ _ h2).mono ?_
  rintro e w3 ⟨rfl, h3, b3⟩
  go_wp2_with fail
  go_ret
  exact ⟨rfl, (below_fresh w _).trans (b1.trans (b2.trans b3))⟩
end Go.Proofs.YtboekgedfhdaaaaDoor
