/- writeTo of an import; the builders of the laws. Conditions: strings of at most 2^20 bytes; the text stays below 2^40 bytes; the two tables of unicode/utf8 stand. -/
import Derived.Test.YtinhadafmlplaaaDoorI3
set_option linter.unusedVariables false
namespace Go.Proofs.YtinhadafmlplaaaDoor
open Go.Shelf Go.RowKit


theorem empty_of {s : ByteArray} (h : s.size = 0) : s.toList.isEmpty = true := by
  rw [ByteArray.toList_eq, List.isEmpty_iff_length_eq_zero, ← Lib.size_eq]; exact h
theorem nonempty_of {s : ByteArray} (h : ¬ s.size = 0) : s.toList.isEmpty = false := by
  rw [ByteArray.toList_eq, Bool.eq_false_iff, Ne, List.isEmpty_iff_length_eq_zero, ← Lib.size_eq]; exact h
theorem eqnil_of {s : ByteArray} (h : s.size = 0) : s.toList = [] := by
  rw [ByteArray.toList_eq, ← List.length_eq_zero_iff, ← Lib.size_eq]; exact h

set_option maxRecDepth 100000 in
theorem import_path (w0 : World) (a : Nat) (p al ic : ByteArray) (ha : a < w0.heap.size) (hT : Lib.Utf8Tabs 0 1 w0) (hp : ¬ p.size = 0) (sp : p.size ≤ 1048576) (sc : ic.size ≤ 1048576)
    (c0 : w0.cell? ⟨a, 0, none⟩ = some (.string p)) (c1 : w0.cell? ⟨a, 1, none⟩ = some (.string al)) (c2 : w0.cell? ⟨a, 2, none⟩ = some (.string ic)) (c3 : w0.cell? ⟨a, 3, none⟩ = some (.pointer none)) :
    Prints 20 w0 ⟨a, 0, none⟩ (fun _ => sImport ++ encQ p ++ sAs ++ al.data.toList ++ sEnd) := by
  intro B b l w hB hbw hbb hlen
  have HL := Lib.hid (show l.length + (sImport ++ encQ p ++ sAs ++ al.data.toList ++ sEnd).length ≤ 1099511627776 from hlen)
  clear hlen
  have ha' : a < B := Nat.lt_of_lt_of_le ha hB
  have HT := Lib.hid (tabs_kept hT hbw (tabs_two hT))
  have h2B := Nat.le_trans (tabs_two hT) hB
  have n1 := nonempty_of hp
  have n2 : (p.toList == []) = false := by cases h : p.toList <;> simp_all
  have d00 : w.cell? ⟨a, 0, none⟩ = some (.string p) := (hbw.cell (p := ⟨a, 0, none⟩) ha).trans c0
  have d01 : w.cell? ⟨a, 1, none⟩ = some (.string al) := (hbw.cell (p := ⟨a, 1, none⟩) ha).trans c1
  have d02 : w.cell? ⟨a, 2, none⟩ = some (.string ic) := (hbw.cell (p := ⟨a, 2, none⟩) ha).trans c2
  have d03 : w.cell? ⟨a, 3, none⟩ = some (.pointer none) := (hbw.cell (p := ⟨a, 3, none⟩) ha).trans c3
  clear c0 c1 c2 c3 hp hT
  have bt0 : Below B w w := Below.refl _ _
  have h0 := hbb
  clear hbb
  go_enter Tryd.func20, Tryd.ntmps20
  go_wp2_with fail
  refine (bb_WriteString B b (l) ⟨sImport.toArray⟩ _ h0 (by have := HL.out; simp only [List.length_append] at this ⊢; omega)).mono ?_
  rintro e w1 ⟨rfl, h1, b1⟩
  have bt1 : Below B w w1 := bt0.trans b1
  have d10 : w1.cell? ⟨a, 0, none⟩ = some (.string p) := (b1.cell (p := ⟨a, 0, none⟩) ha').trans d00
  have d11 : w1.cell? ⟨a, 1, none⟩ = some (.string al) := (b1.cell (p := ⟨a, 1, none⟩) ha').trans d01
  have d12 : w1.cell? ⟨a, 2, none⟩ = some (.string ic) := (b1.cell (p := ⟨a, 2, none⟩) ha').trans d02
  have d13 : w1.cell? ⟨a, 3, none⟩ = some (.pointer none) := (b1.cell (p := ⟨a, 3, none⟩) ha').trans d03
  clear h0 b1 bt0 d00 d01 d02 d03
  go_wp2_with fail
  refine (json_any B b (l ++ sImport) p _ sp h2B (tabs_kept HT.out bt1 h2B) h1 (by have := HL.out; simp only [List.length_append] at this ⊢; omega)).mono ?_
  rintro e w2 ⟨rfl, h2, b2⟩
  have bt2 : Below B w w2 := bt1.trans b2
  have d20 : w2.cell? ⟨a, 0, none⟩ = some (.string p) := (b2.cell (p := ⟨a, 0, none⟩) ha').trans d10
  have d21 : w2.cell? ⟨a, 1, none⟩ = some (.string al) := (b2.cell (p := ⟨a, 1, none⟩) ha').trans d11
  have d22 : w2.cell? ⟨a, 2, none⟩ = some (.string ic) := (b2.cell (p := ⟨a, 2, none⟩) ha').trans d12
  have d23 : w2.cell? ⟨a, 3, none⟩ = some (.pointer none) := (b2.cell (p := ⟨a, 3, none⟩) ha').trans d13
  clear h1 b2 bt1 d10 d11 d12 d13
  go_wp2_with fail
  refine (bb_WriteString B b (l ++ sImport ++ encQ p) ⟨sAs.toArray⟩ _ h2 (by have := HL.out; simp only [List.length_append] at this ⊢; omega)).mono ?_
  rintro e w3 ⟨rfl, h3, b3⟩
  have bt3 : Below B w w3 := bt2.trans b3
  have d30 : w3.cell? ⟨a, 0, none⟩ = some (.string p) := (b3.cell (p := ⟨a, 0, none⟩) ha').trans d20
  have d31 : w3.cell? ⟨a, 1, none⟩ = some (.string al) := (b3.cell (p := ⟨a, 1, none⟩) ha').trans d21
  have d32 : w3.cell? ⟨a, 2, none⟩ = some (.string ic) := (b3.cell (p := ⟨a, 2, none⟩) ha').trans d22
  have d33 : w3.cell? ⟨a, 3, none⟩ = some (.pointer none) := (b3.cell (p := ⟨a, 3, none⟩) ha').trans d23
  clear h2 b3 bt2 d20 d21 d22 d23
  go_wp2_with fail
  refine (bb_WriteString B b (l ++ sImport ++ encQ p ++ sAs) al _ h3 (by have := HL.out; simp only [List.length_append] at this ⊢; omega)).mono ?_
  rintro e w4 ⟨rfl, h4, b4⟩
  have bt4 : Below B w w4 := bt3.trans b4
  have d40 : w4.cell? ⟨a, 0, none⟩ = some (.string p) := (b4.cell (p := ⟨a, 0, none⟩) ha').trans d30
  have d41 : w4.cell? ⟨a, 1, none⟩ = some (.string al) := (b4.cell (p := ⟨a, 1, none⟩) ha').trans d31
  have d42 : w4.cell? ⟨a, 2, none⟩ = some (.string ic) := (b4.cell (p := ⟨a, 2, none⟩) ha').trans d32
  have d43 : w4.cell? ⟨a, 3, none⟩ = some (.pointer none) := (b4.cell (p := ⟨a, 3, none⟩) ha').trans d33
  clear h3 b4 bt3 d30 d31 d32 d33
  go_wp2_with fail
  refine (bb_WriteString B b (l ++ sImport ++ encQ p ++ sAs ++ al.data.toList) ⟨sEnd.toArray⟩ _ h4 (by have := HL.out; simp only [List.length_append] at this ⊢; omega)).mono ?_
  rintro e w5 ⟨rfl, h5, b5⟩
  have bt5 : Below B w w5 := bt4.trans b5
  have d50 : w5.cell? ⟨a, 0, none⟩ = some (.string p) := (b5.cell (p := ⟨a, 0, none⟩) ha').trans d40
  have d51 : w5.cell? ⟨a, 1, none⟩ = some (.string al) := (b5.cell (p := ⟨a, 1, none⟩) ha').trans d41
  have d52 : w5.cell? ⟨a, 2, none⟩ = some (.string ic) := (b5.cell (p := ⟨a, 2, none⟩) ha').trans d42
  have d53 : w5.cell? ⟨a, 3, none⟩ = some (.pointer none) := (b5.cell (p := ⟨a, 3, none⟩) ha').trans d43
  clear h4 b5 bt4 d40 d41 d42 d43
  go_wp2_with fail
  go_end0
  exact ⟨rfl, by simpa only [List.append_assoc] using h5, bt5⟩

set_option maxRecDepth 100000 in
theorem import_path_meta (w0 : World) (a : Nat) (p al ic : ByteArray) (x : Addr) (U : List UInt8) (ha : a < w0.heap.size) (hT : Lib.Utf8Tabs 0 1 w0) (hp : ¬ p.size = 0) (sp : p.size ≤ 1048576) (sc : ic.size ≤ 1048576)
    (c0 : w0.cell? ⟨a, 0, none⟩ = some (.string p)) (c1 : w0.cell? ⟨a, 1, none⟩ = some (.string al)) (c2 : w0.cell? ⟨a, 2, none⟩ = some (.string ic)) (c3 : w0.cell? ⟨a, 3, none⟩ = some (.pointer (some x))) (hx : Prints 22 w0 x (fun _ => U)) :
    Prints 20 w0 ⟨a, 0, none⟩ (fun _ => sImport ++ encQ p ++ sAs ++ al.data.toList ++ [32] ++ U ++ sEnd) := by
  intro B b l w hB hbw hbb hlen
  have HL := Lib.hid (show l.length + (sImport ++ encQ p ++ sAs ++ al.data.toList ++ [32] ++ U ++ sEnd).length ≤ 1099511627776 from hlen)
  clear hlen
  have ha' : a < B := Nat.lt_of_lt_of_le ha hB
  have HT := Lib.hid (tabs_kept hT hbw (tabs_two hT))
  have h2B := Nat.le_trans (tabs_two hT) hB
  have n1 := nonempty_of hp
  have n2 : (p.toList == []) = false := by cases h : p.toList <;> simp_all
  have d00 : w.cell? ⟨a, 0, none⟩ = some (.string p) := (hbw.cell (p := ⟨a, 0, none⟩) ha).trans c0
  have d01 : w.cell? ⟨a, 1, none⟩ = some (.string al) := (hbw.cell (p := ⟨a, 1, none⟩) ha).trans c1
  have d02 : w.cell? ⟨a, 2, none⟩ = some (.string ic) := (hbw.cell (p := ⟨a, 2, none⟩) ha).trans c2
  have d03 : w.cell? ⟨a, 3, none⟩ = some (.pointer (some x)) := (hbw.cell (p := ⟨a, 3, none⟩) ha).trans c3
  clear c0 c1 c2 c3 hp hT
  have bt0 : Below B w w := Below.refl _ _
  have h0 := hbb
  clear hbb
  go_enter Tryd.func20, Tryd.ntmps20
  go_wp2_with fail
  refine (bb_WriteString B b (l) ⟨sImport.toArray⟩ _ h0 (by have := HL.out; simp only [List.length_append, List.length_cons, List.length_nil] at this ⊢; omega)).mono ?_
  rintro e w1 ⟨rfl, h1, b1⟩
  have bt1 : Below B w w1 := bt0.trans b1
  have d10 : w1.cell? ⟨a, 0, none⟩ = some (.string p) := (b1.cell (p := ⟨a, 0, none⟩) ha').trans d00
  have d11 : w1.cell? ⟨a, 1, none⟩ = some (.string al) := (b1.cell (p := ⟨a, 1, none⟩) ha').trans d01
  have d12 : w1.cell? ⟨a, 2, none⟩ = some (.string ic) := (b1.cell (p := ⟨a, 2, none⟩) ha').trans d02
  have d13 : w1.cell? ⟨a, 3, none⟩ = some (.pointer (some x)) := (b1.cell (p := ⟨a, 3, none⟩) ha').trans d03
  clear h0 b1 bt0 d00 d01 d02 d03
  go_wp2_with fail
  refine (json_any B b (l ++ sImport) p _ sp h2B (tabs_kept HT.out bt1 h2B) h1 (by have := HL.out; simp only [List.length_append, List.length_cons, List.length_nil] at this ⊢; omega)).mono ?_
  rintro e w2 ⟨rfl, h2, b2⟩
  have bt2 : Below B w w2 := bt1.trans b2
  have d20 : w2.cell? ⟨a, 0, none⟩ = some (.string p) := (b2.cell (p := ⟨a, 0, none⟩) ha').trans d10
  have d21 : w2.cell? ⟨a, 1, none⟩ = some (.string al) := (b2.cell (p := ⟨a, 1, none⟩) ha').trans d11
  have d22 : w2.cell? ⟨a, 2, none⟩ = some (.string ic) := (b2.cell (p := ⟨a, 2, none⟩) ha').trans d12
  have d23 : w2.cell? ⟨a, 3, none⟩ = some (.pointer (some x)) := (b2.cell (p := ⟨a, 3, none⟩) ha').trans d13
  clear h1 b2 bt1 d10 d11 d12 d13
  go_wp2_with fail
  refine (bb_WriteString B b (l ++ sImport ++ encQ p) ⟨sAs.toArray⟩ _ h2 (by have := HL.out; simp only [List.length_append, List.length_cons, List.length_nil] at this ⊢; omega)).mono ?_
  rintro e w3 ⟨rfl, h3, b3⟩
  have bt3 : Below B w w3 := bt2.trans b3
  have d30 : w3.cell? ⟨a, 0, none⟩ = some (.string p) := (b3.cell (p := ⟨a, 0, none⟩) ha').trans d20
  have d31 : w3.cell? ⟨a, 1, none⟩ = some (.string al) := (b3.cell (p := ⟨a, 1, none⟩) ha').trans d21
  have d32 : w3.cell? ⟨a, 2, none⟩ = some (.string ic) := (b3.cell (p := ⟨a, 2, none⟩) ha').trans d22
  have d33 : w3.cell? ⟨a, 3, none⟩ = some (.pointer (some x)) := (b3.cell (p := ⟨a, 3, none⟩) ha').trans d23
  clear h2 b3 bt2 d20 d21 d22 d23
  go_wp2_with fail
  refine (bb_WriteString B b (l ++ sImport ++ encQ p ++ sAs) al _ h3 (by have := HL.out; simp only [List.length_append, List.length_cons, List.length_nil] at this ⊢; omega)).mono ?_
  rintro e w4 ⟨rfl, h4, b4⟩
  have bt4 : Below B w w4 := bt3.trans b4
  have d40 : w4.cell? ⟨a, 0, none⟩ = some (.string p) := (b4.cell (p := ⟨a, 0, none⟩) ha').trans d30
  have d41 : w4.cell? ⟨a, 1, none⟩ = some (.string al) := (b4.cell (p := ⟨a, 1, none⟩) ha').trans d31
  have d42 : w4.cell? ⟨a, 2, none⟩ = some (.string ic) := (b4.cell (p := ⟨a, 2, none⟩) ha').trans d32
  have d43 : w4.cell? ⟨a, 3, none⟩ = some (.pointer (some x)) := (b4.cell (p := ⟨a, 3, none⟩) ha').trans d33
  clear h3 b4 bt3 d30 d31 d32 d33
  go_wp2_with fail
  refine (bb_WriteByte B b (l ++ sImport ++ encQ p ++ sAs ++ al.data.toList) 32 32 _ h4 rfl (by have := HL.out; simp only [List.length_append, List.length_cons, List.length_nil] at this ⊢; omega)).mono ?_
  rintro e w5 ⟨rfl, h5, b5⟩
  have bt5 : Below B w w5 := bt4.trans b5
  have d50 : w5.cell? ⟨a, 0, none⟩ = some (.string p) := (b5.cell (p := ⟨a, 0, none⟩) ha').trans d40
  have d51 : w5.cell? ⟨a, 1, none⟩ = some (.string al) := (b5.cell (p := ⟨a, 1, none⟩) ha').trans d41
  have d52 : w5.cell? ⟨a, 2, none⟩ = some (.string ic) := (b5.cell (p := ⟨a, 2, none⟩) ha').trans d42
  have d53 : w5.cell? ⟨a, 3, none⟩ = some (.pointer (some x)) := (b5.cell (p := ⟨a, 3, none⟩) ha').trans d43
  clear h4 b5 bt4 d40 d41 d42 d43
  go_wp2_with fail
  refine (hx B b (l ++ sImport ++ encQ p ++ sAs ++ al.data.toList ++ [32]) _ hB (hbw.trans (bt5.mono hB)) h5 (by have := HL.out; simp only [List.length_append, List.length_cons, List.length_nil] at this ⊢; omega)).mono ?_
  rintro e w6 ⟨rfl, h6, b6⟩
  have bt6 : Below B w w6 := bt5.trans b6
  have d60 : w6.cell? ⟨a, 0, none⟩ = some (.string p) := (b6.cell (p := ⟨a, 0, none⟩) ha').trans d50
  have d61 : w6.cell? ⟨a, 1, none⟩ = some (.string al) := (b6.cell (p := ⟨a, 1, none⟩) ha').trans d51
  have d62 : w6.cell? ⟨a, 2, none⟩ = some (.string ic) := (b6.cell (p := ⟨a, 2, none⟩) ha').trans d52
  have d63 : w6.cell? ⟨a, 3, none⟩ = some (.pointer (some x)) := (b6.cell (p := ⟨a, 3, none⟩) ha').trans d53
  clear h5 b6 bt5 d50 d51 d52 d53
  go_wp2_with fail
  refine (bb_WriteString B b (l ++ sImport ++ encQ p ++ sAs ++ al.data.toList ++ [32] ++ U) ⟨sEnd.toArray⟩ _ h6 (by have := HL.out; simp only [List.length_append, List.length_cons, List.length_nil] at this ⊢; omega)).mono ?_
  rintro e w7 ⟨rfl, h7, b7⟩
  have bt7 : Below B w w7 := bt6.trans b7
  have d70 : w7.cell? ⟨a, 0, none⟩ = some (.string p) := (b7.cell (p := ⟨a, 0, none⟩) ha').trans d60
  have d71 : w7.cell? ⟨a, 1, none⟩ = some (.string al) := (b7.cell (p := ⟨a, 1, none⟩) ha').trans d61
  have d72 : w7.cell? ⟨a, 2, none⟩ = some (.string ic) := (b7.cell (p := ⟨a, 2, none⟩) ha').trans d62
  have d73 : w7.cell? ⟨a, 3, none⟩ = some (.pointer (some x)) := (b7.cell (p := ⟨a, 3, none⟩) ha').trans d63
  clear h6 b7 bt6 d60 d61 d62 d63
  go_wp2_with fail
  go_end0
  exact ⟨rfl, by simpa only [List.append_assoc] using h7, bt7⟩

set_option maxRecDepth 100000 in
theorem import_incl (w0 : World) (a : Nat) (p al ic : ByteArray) (ha : a < w0.heap.size) (hT : Lib.Utf8Tabs 0 1 w0) (hp : p.size = 0) (sp : p.size ≤ 1048576) (sc : ic.size ≤ 1048576)
    (c0 : w0.cell? ⟨a, 0, none⟩ = some (.string p)) (c1 : w0.cell? ⟨a, 1, none⟩ = some (.string al)) (c2 : w0.cell? ⟨a, 2, none⟩ = some (.string ic)) (c3 : w0.cell? ⟨a, 3, none⟩ = some (.pointer none)) :
    Prints 20 w0 ⟨a, 0, none⟩ (fun _ => sInclude ++ encQ ic ++ sEnd) := by
  intro B b l w hB hbw hbb hlen
  have HL := Lib.hid (show l.length + (sInclude ++ encQ ic ++ sEnd).length ≤ 1099511627776 from hlen)
  clear hlen
  have ha' : a < B := Nat.lt_of_lt_of_le ha hB
  have HT := Lib.hid (tabs_kept hT hbw (tabs_two hT))
  have h2B := Nat.le_trans (tabs_two hT) hB
  have n1 := empty_of hp
  have n2 := eqnil_of hp
  have d00 : w.cell? ⟨a, 0, none⟩ = some (.string p) := (hbw.cell (p := ⟨a, 0, none⟩) ha).trans c0
  have d01 : w.cell? ⟨a, 1, none⟩ = some (.string al) := (hbw.cell (p := ⟨a, 1, none⟩) ha).trans c1
  have d02 : w.cell? ⟨a, 2, none⟩ = some (.string ic) := (hbw.cell (p := ⟨a, 2, none⟩) ha).trans c2
  have d03 : w.cell? ⟨a, 3, none⟩ = some (.pointer none) := (hbw.cell (p := ⟨a, 3, none⟩) ha).trans c3
  clear c0 c1 c2 c3 hp hT
  have bt0 : Below B w w := Below.refl _ _
  have h0 := hbb
  clear hbb
  go_enter Tryd.func20, Tryd.ntmps20
  go_wp2_with fail
  refine (bb_WriteString B b (l) ⟨sInclude.toArray⟩ _ h0 (by have := HL.out; simp only [List.length_append] at this ⊢; omega)).mono ?_
  rintro e w1 ⟨rfl, h1, b1⟩
  have bt1 : Below B w w1 := bt0.trans b1
  have d10 : w1.cell? ⟨a, 0, none⟩ = some (.string p) := (b1.cell (p := ⟨a, 0, none⟩) ha').trans d00
  have d11 : w1.cell? ⟨a, 1, none⟩ = some (.string al) := (b1.cell (p := ⟨a, 1, none⟩) ha').trans d01
  have d12 : w1.cell? ⟨a, 2, none⟩ = some (.string ic) := (b1.cell (p := ⟨a, 2, none⟩) ha').trans d02
  have d13 : w1.cell? ⟨a, 3, none⟩ = some (.pointer none) := (b1.cell (p := ⟨a, 3, none⟩) ha').trans d03
  clear h0 b1 bt0 d00 d01 d02 d03
  go_wp2_with fail
  refine (json_any B b (l ++ sInclude) ic _ sc h2B (tabs_kept HT.out bt1 h2B) h1 (by have := HL.out; simp only [List.length_append] at this ⊢; omega)).mono ?_
  rintro e w2 ⟨rfl, h2, b2⟩
  have bt2 : Below B w w2 := bt1.trans b2
  have d20 : w2.cell? ⟨a, 0, none⟩ = some (.string p) := (b2.cell (p := ⟨a, 0, none⟩) ha').trans d10
  have d21 : w2.cell? ⟨a, 1, none⟩ = some (.string al) := (b2.cell (p := ⟨a, 1, none⟩) ha').trans d11
  have d22 : w2.cell? ⟨a, 2, none⟩ = some (.string ic) := (b2.cell (p := ⟨a, 2, none⟩) ha').trans d12
  have d23 : w2.cell? ⟨a, 3, none⟩ = some (.pointer none) := (b2.cell (p := ⟨a, 3, none⟩) ha').trans d13
  clear h1 b2 bt1 d10 d11 d12 d13
  go_wp2_with fail
  refine (bb_WriteString B b (l ++ sInclude ++ encQ ic) ⟨sEnd.toArray⟩ _ h2 (by have := HL.out; simp only [List.length_append] at this ⊢; omega)).mono ?_
  rintro e w3 ⟨rfl, h3, b3⟩
  have bt3 : Below B w w3 := bt2.trans b3
  have d30 : w3.cell? ⟨a, 0, none⟩ = some (.string p) := (b3.cell (p := ⟨a, 0, none⟩) ha').trans d20
  have d31 : w3.cell? ⟨a, 1, none⟩ = some (.string al) := (b3.cell (p := ⟨a, 1, none⟩) ha').trans d21
  have d32 : w3.cell? ⟨a, 2, none⟩ = some (.string ic) := (b3.cell (p := ⟨a, 2, none⟩) ha').trans d22
  have d33 : w3.cell? ⟨a, 3, none⟩ = some (.pointer none) := (b3.cell (p := ⟨a, 3, none⟩) ha').trans d23
  clear h2 b3 bt2 d20 d21 d22 d23
  go_wp2_with fail
  go_end0
  exact ⟨rfl, by simpa only [List.append_assoc] using h3, bt3⟩

set_option maxRecDepth 100000 in
theorem import_incl_meta (w0 : World) (a : Nat) (p al ic : ByteArray) (x : Addr) (U : List UInt8) (ha : a < w0.heap.size) (hT : Lib.Utf8Tabs 0 1 w0) (hp : p.size = 0) (sp : p.size ≤ 1048576) (sc : ic.size ≤ 1048576)
    (c0 : w0.cell? ⟨a, 0, none⟩ = some (.string p)) (c1 : w0.cell? ⟨a, 1, none⟩ = some (.string al)) (c2 : w0.cell? ⟨a, 2, none⟩ = some (.string ic)) (c3 : w0.cell? ⟨a, 3, none⟩ = some (.pointer (some x))) (hx : Prints 22 w0 x (fun _ => U)) :
    Prints 20 w0 ⟨a, 0, none⟩ (fun _ => sInclude ++ encQ ic ++ [32] ++ U ++ sEnd) := by
  intro B b l w hB hbw hbb hlen
  have HL := Lib.hid (show l.length + (sInclude ++ encQ ic ++ [32] ++ U ++ sEnd).length ≤ 1099511627776 from hlen)
  clear hlen
  have ha' : a < B := Nat.lt_of_lt_of_le ha hB
  have HT := Lib.hid (tabs_kept hT hbw (tabs_two hT))
  have h2B := Nat.le_trans (tabs_two hT) hB
  have n1 := empty_of hp
  have n2 := eqnil_of hp
  have d00 : w.cell? ⟨a, 0, none⟩ = some (.string p) := (hbw.cell (p := ⟨a, 0, none⟩) ha).trans c0
  have d01 : w.cell? ⟨a, 1, none⟩ = some (.string al) := (hbw.cell (p := ⟨a, 1, none⟩) ha).trans c1
  have d02 : w.cell? ⟨a, 2, none⟩ = some (.string ic) := (hbw.cell (p := ⟨a, 2, none⟩) ha).trans c2
  have d03 : w.cell? ⟨a, 3, none⟩ = some (.pointer (some x)) := (hbw.cell (p := ⟨a, 3, none⟩) ha).trans c3
  clear c0 c1 c2 c3 hp hT
  have bt0 : Below B w w := Below.refl _ _
  have h0 := hbb
  clear hbb
  go_enter Tryd.func20, Tryd.ntmps20
  go_wp2_with fail
  refine (bb_WriteString B b (l) ⟨sInclude.toArray⟩ _ h0 (by have := HL.out; simp only [List.length_append, List.length_cons, List.length_nil] at this ⊢; omega)).mono ?_
  rintro e w1 ⟨rfl, h1, b1⟩
  have bt1 : Below B w w1 := bt0.trans b1
  have d10 : w1.cell? ⟨a, 0, none⟩ = some (.string p) := (b1.cell (p := ⟨a, 0, none⟩) ha').trans d00
  have d11 : w1.cell? ⟨a, 1, none⟩ = some (.string al) := (b1.cell (p := ⟨a, 1, none⟩) ha').trans d01
  have d12 : w1.cell? ⟨a, 2, none⟩ = some (.string ic) := (b1.cell (p := ⟨a, 2, none⟩) ha').trans d02
  have d13 : w1.cell? ⟨a, 3, none⟩ = some (.pointer (some x)) := (b1.cell (p := ⟨a, 3, none⟩) ha').trans d03
  clear h0 b1 bt0 d00 d01 d02 d03
  go_wp2_with fail
  refine (json_any B b (l ++ sInclude) ic _ sc h2B (tabs_kept HT.out bt1 h2B) h1 (by have := HL.out; simp only [List.length_append, List.length_cons, List.length_nil] at this ⊢; omega)).mono ?_
  rintro e w2 ⟨rfl, h2, b2⟩
  have bt2 : Below B w w2 := bt1.trans b2
  have d20 : w2.cell? ⟨a, 0, none⟩ = some (.string p) := (b2.cell (p := ⟨a, 0, none⟩) ha').trans d10
  have d21 : w2.cell? ⟨a, 1, none⟩ = some (.string al) := (b2.cell (p := ⟨a, 1, none⟩) ha').trans d11
  have d22 : w2.cell? ⟨a, 2, none⟩ = some (.string ic) := (b2.cell (p := ⟨a, 2, none⟩) ha').trans d12
  have d23 : w2.cell? ⟨a, 3, none⟩ = some (.pointer (some x)) := (b2.cell (p := ⟨a, 3, none⟩) ha').trans d13
  clear h1 b2 bt1 d10 d11 d12 d13
  go_wp2_with fail
  refine (bb_WriteByte B b (l ++ sInclude ++ encQ ic) 32 32 _ h2 rfl (by have := HL.out; simp only [List.length_append, List.length_cons, List.length_nil] at this ⊢; omega)).mono ?_
  rintro e w3 ⟨rfl, h3, b3⟩
  have bt3 : Below B w w3 := bt2.trans b3
  have d30 : w3.cell? ⟨a, 0, none⟩ = some (.string p) := (b3.cell (p := ⟨a, 0, none⟩) ha').trans d20
  have d31 : w3.cell? ⟨a, 1, none⟩ = some (.string al) := (b3.cell (p := ⟨a, 1, none⟩) ha').trans d21
  have d32 : w3.cell? ⟨a, 2, none⟩ = some (.string ic) := (b3.cell (p := ⟨a, 2, none⟩) ha').trans d22
  have d33 : w3.cell? ⟨a, 3, none⟩ = some (.pointer (some x)) := (b3.cell (p := ⟨a, 3, none⟩) ha').trans d23
  clear h2 b3 bt2 d20 d21 d22 d23
  go_wp2_with fail
  refine (hx B b (l ++ sInclude ++ encQ ic ++ [32]) _ hB (hbw.trans (bt3.mono hB)) h3 (by have := HL.out; simp only [List.length_append, List.length_cons, List.length_nil] at this ⊢; omega)).mono ?_
  rintro e w4 ⟨rfl, h4, b4⟩
  have bt4 : Below B w w4 := bt3.trans b4
  have d40 : w4.cell? ⟨a, 0, none⟩ = some (.string p) := (b4.cell (p := ⟨a, 0, none⟩) ha').trans d30
  have d41 : w4.cell? ⟨a, 1, none⟩ = some (.string al) := (b4.cell (p := ⟨a, 1, none⟩) ha').trans d31
  have d42 : w4.cell? ⟨a, 2, none⟩ = some (.string ic) := (b4.cell (p := ⟨a, 2, none⟩) ha').trans d32
  have d43 : w4.cell? ⟨a, 3, none⟩ = some (.pointer (some x)) := (b4.cell (p := ⟨a, 3, none⟩) ha').trans d33
  clear h3 b4 bt3 d30 d31 d32 d33
  go_wp2_with fail
  refine (bb_WriteString B b (l ++ sInclude ++ encQ ic ++ [32] ++ U) ⟨sEnd.toArray⟩ _ h4 (by have := HL.out; simp only [List.length_append, List.length_cons, List.length_nil] at this ⊢; omega)).mono ?_
  rintro e w5 ⟨rfl, h5, b5⟩
  have bt5 : Below B w w5 := bt4.trans b5
  have d50 : w5.cell? ⟨a, 0, none⟩ = some (.string p) := (b5.cell (p := ⟨a, 0, none⟩) ha').trans d40
  have d51 : w5.cell? ⟨a, 1, none⟩ = some (.string al) := (b5.cell (p := ⟨a, 1, none⟩) ha').trans d41
  have d52 : w5.cell? ⟨a, 2, none⟩ = some (.string ic) := (b5.cell (p := ⟨a, 2, none⟩) ha').trans d42
  have d53 : w5.cell? ⟨a, 3, none⟩ = some (.pointer (some x)) := (b5.cell (p := ⟨a, 3, none⟩) ha').trans d43
  clear h4 b5 bt4 d40 d41 d42 d43
  go_wp2_with fail
  go_end0
  exact ⟨rfl, by simpa only [List.append_assoc] using h5, bt5⟩

/-- The metadata of mode k, as its cells stand. -/
def MetaCells (k : Nat) (w : World) (m : Option Addr) : Prop :=
  if k = 0 then m = none
  else if k = 1 then ∃ a, m = some ⟨a, 0, none⟩ ∧ a < w.heap.size ∧ w.cell? ⟨a, 0, none⟩ = some (.slice none 0 0)
  else ∃ a g v t, m = some ⟨a, 0, none⟩ ∧ a < w.heap.size ∧ g < w.heap.size ∧ v < w.heap.size ∧ t < w.heap.size ∧ w.cell? ⟨a, 0, none⟩ = some (.slice (some ⟨g, 0, none⟩) 1 1) ∧ w.cell? ⟨g, 0, none⟩ = some (.pointer (some ⟨v, 0, none⟩)) ∧
    w.cell? ⟨v, 0, none⟩ = some (.string ⟨#[107]⟩) ∧ w.cell? ⟨v, 1, none⟩ = some (.string ⟨#[]⟩) ∧ w.cell? ⟨v, 2, none⟩ = some (.pointer (some ⟨t, 0, none⟩)) ∧
    w.cell? ⟨t, 0, none⟩ = some (.pointer none) ∧ w.cell? ⟨t, 1, none⟩ = some (.pointer none) ∧ w.cell? ⟨t, 2, none⟩ = some (.string ⟨#[]⟩) ∧ w.cell? ⟨t, 3, none⟩ = some (.string ⟨#[]⟩) ∧ w.cell? ⟨t, 4, none⟩ = some (.bool true)
theorem MetaCells.below {k : Nat} {w w' : World} {m : Option Addr} (h : MetaCells k w m) (hb : Below w.heap.size w w') : MetaCells k w' m := by
  unfold MetaCells at *
  split at h
  · rw [if_pos (by assumption)]; exact h
  · rw [if_neg (by assumption)]
    split at h
    · rw [if_pos (by assumption)]
      obtain ⟨a, h1, h2, h3⟩ := h
      exact ⟨a, h1, Nat.lt_of_lt_of_le h2 hb.size, (hb.cell (p := ⟨a, 0, none⟩) h2).trans h3⟩
    · rw [if_neg (by assumption)]
      obtain ⟨a, g, v, t, h1, ha, hg, hv, ht, q1, q2, q3, q4, q5, q6, q7, q8, q9, q10⟩ := h
      exact ⟨a, g, v, t, h1, Nat.lt_of_lt_of_le ha hb.size, Nat.lt_of_lt_of_le hg hb.size, Nat.lt_of_lt_of_le hv hb.size, Nat.lt_of_lt_of_le ht hb.size, (hb.cell (p := ⟨a, 0, none⟩) ha).trans q1, (hb.cell (p := ⟨g, 0, none⟩) hg).trans q2, (hb.cell (p := ⟨v, 0, none⟩) hv).trans q3, (hb.cell (p := ⟨v, 1, none⟩) hv).trans q4, (hb.cell (p := ⟨v, 2, none⟩) hv).trans q5,
        (hb.cell (p := ⟨t, 0, none⟩) ht).trans q6, (hb.cell (p := ⟨t, 1, none⟩) ht).trans q7, (hb.cell (p := ⟨t, 2, none⟩) ht).trans q8, (hb.cell (p := ⟨t, 3, none⟩) ht).trans q9, (hb.cell (p := ⟨t, 4, none⟩) ht).trans q10⟩
/-- What mode k prints behind the rest. -/
def metaL (k : Nat) : List UInt8 := if k = 0 then [] else if k = 1 then [32, 123, 125] else [32, 123, 32, 107, 58, 32, 110, 117, 108, 108, 32, 125]
def impL (p al ic : ByteArray) (k : Nat) : List UInt8 :=
  if p.size = 0 then sInclude ++ encQ ic ++ metaL k ++ sEnd else sImport ++ encQ p ++ sAs ++ al.data.toList ++ metaL k ++ sEnd
theorem import_any (w0 : World) (a k : Nat) (p al ic : ByteArray) (m : Option Addr) (ha : a < w0.heap.size) (hT : Lib.Utf8Tabs 0 1 w0) (sp : p.size ≤ 1048576) (sc : ic.size ≤ 1048576)
    (c0 : w0.cell? ⟨a, 0, none⟩ = some (.string p)) (c1 : w0.cell? ⟨a, 1, none⟩ = some (.string al)) (c2 : w0.cell? ⟨a, 2, none⟩ = some (.string ic)) (c3 : w0.cell? ⟨a, 3, none⟩ = some (.pointer m)) (hm : MetaCells k w0 m) :
    Prints 20 w0 ⟨a, 0, none⟩ (fun _ => impL p al ic k) := by
  have hmm : (m = none ∧ metaL k = []) ∨ ∃ x U, m = some x ∧ metaL k = [32] ++ U ∧ Prints 22 w0 x (fun _ => U) := by
    unfold MetaCells at hm
    unfold metaL
    split at hm
    · rw [if_pos (by assumption)]; exact Or.inl ⟨hm, rfl⟩
    · rw [if_neg (by assumption)]
      split at hm
      · rw [if_pos (by assumption)]
        obtain ⟨x, rfl, h2, h3⟩ := hm
        exact Or.inr ⟨_, [123, 125], rfl, rfl, object_empty w0 x h2 h3⟩
      · rw [if_neg (by assumption)]
        obtain ⟨x, g, v, t, rfl, hx, hg, hv, ht, q1, q2, q3, q4, q5, q6, q7, q8, q9, q10⟩ := hm
        have hN := const_null w0 t ht q6 q7 q8 q10
        have hK := keyval_any w0 v ⟨t, 0, none⟩ ⟨#[107]⟩ sNull hv (by rw [ByteArray.toList_eq]; rfl) q3 q5 hN
        exact Or.inr ⟨_, [123, 32] ++ ([107] ++ sColon ++ sNull) ++ [32, 125], rfl, rfl, object_one w0 x g 1 ⟨v, 0, none⟩ _ hx hg q1 q2 hK⟩
  by_cases hp : p.size = 0
  · rcases hmm with ⟨rfl, e⟩ | ⟨x, U, rfl, e, hx⟩
    · exact (import_incl w0 a p al ic ha hT hp sp sc c0 c1 c2 c3).congr fun _ => by rw [impL, if_pos hp, e]; simp
    · exact (import_incl_meta w0 a p al ic x U ha hT hp sp sc c0 c1 c2 c3 hx).congr fun _ => by rw [impL, if_pos hp, e]; simp only [List.append_assoc]
  · rcases hmm with ⟨rfl, e⟩ | ⟨x, U, rfl, e, hx⟩
    · exact (import_path w0 a p al ic ha hT hp sp sc c0 c1 c2 c3).congr fun _ => by rw [impL, if_neg hp, e]; simp
    · exact (import_path_meta w0 a p al ic x U ha hT hp sp sc c0 c1 c2 c3 hx).congr fun _ => by rw [impL, if_neg hp, e]; simp only [List.append_assoc]

/-- zzImportMeta's answer. -/
def MetaPost (w : World) (k : Nat) (e : Ending) (w' : World) : Prop := ∃ m : Option Addr, e = .returned (.tuple #[.pointer m, .string ⟨(metaL k).toArray⟩]) ∧ MetaCells k w' m ∧ Below w.heap.size w w'
set_option maxRecDepth 100000 in
theorem meta0 (c : Int) (w : World) (h0 : 0 ≤ c) (h1 : c < 256) (hk : (c % 3 == 0) = true) : Calls Tryd.prog 18 #[.int .u8 c] w (MetaPost w 0) := by
  go_enter Tryd.func18, Tryd.ntmps18
  go_wp2
  go_ret2
  exact ⟨none, rfl, by simp [MetaCells], Below.refl _ _⟩
set_option maxRecDepth 100000 in
theorem meta1 (c : Int) (w : World) (h0 : 0 ≤ c) (h1 : c < 256) (hk0 : (c % 3 == 0) = false) (hk : (c % 3 == 1) = true) : Calls Tryd.prog 18 #[.int .u8 c] w (MetaPost w 1) := by
  go_enter Tryd.func18, Tryd.ntmps18
  go_wp2
  go_ret2
  exact ⟨some ⟨w.heap.size, 0, none⟩, rfl, by rw [MetaCells, if_neg (by decide), if_pos rfl]; exact ⟨w.heap.size, rfl, by simp, by simp [go_sem]⟩, below_fresh w _⟩
set_option maxRecDepth 100000 in
theorem meta2 (c : Int) (w : World) (h0 : 0 ≤ c) (h1 : c < 256) (hk0 : (c % 3 == 0) = false) (hk1 : (c % 3 == 1) = false) : Calls Tryd.prog 18 #[.int .u8 c] w (MetaPost w 2) := by
  go_enter Tryd.func18, Tryd.ntmps18
  go_wp2
  go_ret2
  refine ⟨some ⟨w.heap.size + 1 + 1 + 1, 0, none⟩, rfl, ?_, (((below_fresh w _).alloc (by first | (simp; done) | (simp; omega)) _).alloc (by first | (simp; done) | (simp; omega)) _).alloc (by first | (simp; done) | (simp; omega)) _⟩
  rw [MetaCells, if_neg (by decide), if_neg (by decide)]
  refine ⟨w.heap.size + 1 + 1 + 1, w.heap.size + 1 + 1, w.heap.size + 1, w.heap.size, rfl, ?_⟩
  refine ⟨by first | (simp; done) | (simp; omega), by first | (simp; done) | (simp; omega), by first | (simp; done) | (simp; omega), by first | (simp; done) | (simp; omega), ?_⟩
  refine ⟨by simp [go_sem], by simp [go_sem], by simp [go_sem], by simp [go_sem], by simp [go_sem], by simp [go_sem], by simp [go_sem], by simp [go_sem], by simp [go_sem], by simp [go_sem]⟩
theorem meta_any (c : Int) (w : World) (h0 : 0 ≤ c) (h1 : c < 256) : Calls Tryd.prog 18 #[.int .u8 c] w (MetaPost w (c % 3).toNat) := by
  by_cases e0 : c % 3 = 0
  · have := meta0 c w h0 h1 (by simp [e0]); rw [e0]; exact this
  by_cases e1 : c % 3 = 1
  · have := meta1 c w h0 h1 (by simp [e1]) (by simp [e1]); rw [e1]; exact this
  · have e2 : c % 3 = 2 := by omega
    have := meta2 c w h0 h1 (by simp [e2]) (by simp [e2]); rw [e2]; exact this

theorem const_String (w0 : World) (a : Addr) (f : List UInt8 → List UInt8) (h : Prints 19 w0 a f) (T : List UInt8) (hT : f [] = T) (w : World) (hbw : Below w0.heap.size w0 w) (hlen : T.length ≤ 1099511627776) :
    Calls Tryd.prog 8 #[.pointer (some a)] w fun e w' => e = .returned (.string ⟨T.toArray⟩) ∧ Below w.heap.size w w' := by
  subst hT
  go_enter Tryd.func8, Tryd.ntmps8
  go_wp2_with fail
  refine (h w.heap.size w.heap.size [] _ hbw.size (hbw.trans ((below_fresh w _).mono hbw.size)) (bb_fresh w) (by rw [List.length_nil, Nat.zero_add]; exact hlen)).mono ?_
  rintro e w1 ⟨rfl, h1, b1⟩
  go_wp2_with fail
  refine (bb_String _ _ _ _ h1).mono ?_
  rintro e w2 ⟨rfl, h2, b2⟩
  go_wp2_with fail
  go_ret
  exact ⟨rfl, (below_fresh w _).trans (b1.trans b2)⟩

theorem import_String (w0 : World) (a : Addr) (f : List UInt8 → List UInt8) (h : Prints 20 w0 a f) (T : List UInt8) (hT : f [] = T) (w : World) (hbw : Below w0.heap.size w0 w) (hlen : T.length ≤ 1099511627776) :
    Calls Tryd.prog 9 #[.pointer (some a)] w fun e w' => e = .returned (.string ⟨T.toArray⟩) ∧ Below w.heap.size w w' := by
  subst hT
  go_enter Tryd.func9, Tryd.ntmps9
  go_wp2_with fail
  refine (h w.heap.size w.heap.size [] _ hbw.size (hbw.trans ((below_fresh w _).mono hbw.size)) (bb_fresh w) (by rw [List.length_nil, Nat.zero_add]; exact hlen)).mono ?_
  rintro e w1 ⟨rfl, h1, b1⟩
  go_wp2_with fail
  refine (bb_String _ _ _ _ h1).mono ?_
  rintro e w2 ⟨rfl, h2, b2⟩
  go_wp2_with fail
  go_ret
  exact ⟨rfl, (below_fresh w _).trans (b1.trans b2)⟩

theorem tok_len (s : ByteArray) (i : Nat) (h : i < s.size) : (tok s i).1.length ≤ 6 * (tok s i).2 := by
  have hb := dec_bd s i h
  have hE : ∀ a b, (s.extract a b).data.toList.length ≤ b - a := fun a b => by rw [Lib.extract_data]; exact List.length_take_le _ _
  have hesc : ∀ x, (escT x).length ≤ 6 := fun x => by
    unfold escT
    repeat' split
    all_goals simp
  unfold tok
  split
  · split
    · have := hE i (i + 1); simp only; omega
    · have := hesc (at0 s i); simp only; omega
  · split
    · have : bad6.length = 6 := rfl; simp only; omega
    · have := hE i (i + (dec s i).2); simp only; omega
theorem st_len6 (s : ByteArray) : ∀ k, (st s k).2.length ≤ 6 * (st s k).1
  | 0 => Nat.zero_le _
  | k + 1 => by
    have ih := st_len6 s k
    unfold st
    split
    · rename_i h
      have := tok_len s _ h
      simp only [List.length_append]; omega
    · exact ih
theorem encQ_le (s : ByteArray) : (encQ s).length ≤ 6 * s.size + 2 := by
  rw [encQ_len]
  have h1 := st_len6 s s.size
  have h2 := st_le s s.size
  unfold encT
  omega
theorem metaL_le (k : Nat) : (metaL k).length ≤ 12 := by
  unfold metaL
  repeat' split
  all_goals simp
theorem impL_le (p al ic : ByteArray) (k : Nat) : (impL p al ic k).length ≤ 6 * p.size + 6 * ic.size + al.size + 64 := by
  have h1 := encQ_le p
  have h2 := encQ_le ic
  have h3 := metaL_le k
  have h4 := Lib.size_eq al
  unfold impL
  split
  · simp only [List.length_append, sInclude, sEnd, List.length_cons, List.length_nil]; omega
  · simp only [List.length_append, sImport, sAs, sEnd, List.length_cons, List.length_nil]; omega
/-- zzBuildImport's answer. -/
def BuildPost (w : World) (p al ic : ByteArray) (k : Nat) (e : Ending) (w' : World) : Prop := ∃ (a : Nat) (m : Option Addr), e = .returned (.tuple #[.pointer (some ⟨a, 0, none⟩), .pointer m, .string ⟨(metaL k).toArray⟩]) ∧ a < w'.heap.size ∧
  w'.cell? ⟨a, 0, none⟩ = some (.string p) ∧ w'.cell? ⟨a, 1, none⟩ = some (.string al) ∧ w'.cell? ⟨a, 2, none⟩ = some (.string ic) ∧ w'.cell? ⟨a, 3, none⟩ = some (.pointer m) ∧ MetaCells k w' m ∧ Below w.heap.size w w'
set_option maxRecDepth 100000 in
theorem build_any (p al ic : ByteArray) (c : Int) (w : World) (h0 : 0 ≤ c) (h1 : c < 256) : Calls Tryd.prog 7 #[.string p, .string al, .string ic, .int .u8 c] w (BuildPost w p al ic (c % 3).toNat) := by
  go_enter Tryd.func7, Tryd.ntmps7
  go_wp2_with fail
  refine (meta_any c _ h0 h1).mono ?_
  rintro e w1 ⟨m, rfl, hm, b1⟩
  generalize (c % 3).toNat = k at *
  go_wp2_with fail
  go_ret3
  have b2 := below_fresh w1 (.cells #[.string p, .string al, .string ic, .pointer m] 45)
  exact ⟨w1.heap.size, m, rfl, by simp, by simp [go_sem], by simp [go_sem], by simp [go_sem], by simp [go_sem], hm.below b2, b1.trans (b2.mono b1.size)⟩
theorem ret_bool {a b : Bool} (h : a = b) : Ending.returned (.bool a) = .returned (.bool b) := by rw [h]
theorem toList_app (a b : ByteArray) : (a ++ b).toList = a.toList ++ b.toList := by
  simp only [ByteArray.toList_eq, ByteArray.data_append, Array.toList_append]
theorem size_of (l : List UInt8) : (⟨l.toArray⟩ : ByteArray).size = l.length := by rw [Lib.size_eq]
end Go.Proofs.YtinhadafmlplaaaDoor
