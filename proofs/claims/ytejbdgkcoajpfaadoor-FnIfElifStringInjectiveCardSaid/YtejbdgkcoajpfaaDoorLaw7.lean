/- The walk of FnIfElifStringInjective: it returns true, whatever the arguments. -/
import Derived.Test.YtejbdgkcoajpfaaDoorInj
set_option linter.unusedVariables false
namespace Go.Proofs.YtejbdgkcoajpfaaDoor
open Go.Shelf Go.RowKit

theorem zzB7_yes (a : ByteArray) (b : ByteArray) (c : ByteArray) (d : ByteArray) (w : World) (h : a.size + b.size + c.size + d.size ≤ 1048576) :
    Calls Tryd.prog 29 #[.string a, .string b, .string c, .string d] w fun e w' => e = .returned (.bool true) ∧ w = w' := by
  go_enter Tryd.func29, Tryd.ntmps29
  go_wp2
  go_ret
  exact ⟨rfl, rfl⟩
theorem zzB7_no (a : ByteArray) (b : ByteArray) (c : ByteArray) (d : ByteArray) (w : World) (ma : a.size ≤ 9223372036854775807) (mb : b.size ≤ 9223372036854775807) (mc : c.size ≤ 9223372036854775807) (md : d.size ≤ 9223372036854775807) (h : ¬ a.size + b.size + c.size + d.size ≤ 1048576) :
    Calls Tryd.prog 29 #[.string a, .string b, .string c, .string d] w fun e w' => e = .returned (.bool false) ∧ w = w' := by
  go_enter Tryd.func29, Tryd.ntmps29
  go_wp2
  all_goals
    go_ret
    exact ⟨rfl, rfl⟩

set_option maxRecDepth 100000 in
theorem law7_long (a : ByteArray) (b : ByteArray) (c : ByteArray) (d : ByteArray) (w : World) (ma : a.size ≤ 9223372036854775807) (mb : b.size ≤ 9223372036854775807) (mc : c.size ≤ 9223372036854775807) (md : d.size ≤ 9223372036854775807) (h : ¬ a.size + b.size + c.size + d.size ≤ 1048576) :
    Calls Tryd.prog 7 #[.string a, .string b, .string c, .string d] w fun e w' => e = .returned (.bool true) ∧ Below w.heap.size w w' := by
  go_enter Tryd.func7, Tryd.ntmps7
  go_wp2_with fail
  refine (zzB7_no a b c d _ ma mb mc md h).mono ?_
  rintro e w1 ⟨rfl, rfl⟩
  go_wp2_with fail
  go_ret
  exact ⟨rfl, Below.refl _ _⟩

set_option maxRecDepth 100000 in
theorem law7_short0 (a : ByteArray) (b : ByteArray) (c : ByteArray) (d : ByteArray) (w : World) (h : a.size + b.size + c.size + d.size ≤ 1048576)  (hx : 65536 < a.size) :
    Calls Tryd.prog 7 #[.string a, .string b, .string c, .string d] w fun e w' => e = .returned (.bool true) ∧ Below w.heap.size w w' := by
  go_enter Tryd.func7, Tryd.ntmps7
  go_wp2_with fail
  refine (zzB7_yes a b c d _ h).mono ?_
  rintro e w1 ⟨rfl, rfl⟩
  go_wp2_with fail
  go_ret
  exact ⟨rfl, Below.refl _ _⟩

set_option maxRecDepth 100000 in
theorem law7_short1 (a : ByteArray) (b : ByteArray) (c : ByteArray) (d : ByteArray) (w : World) (h : a.size + b.size + c.size + d.size ≤ 1048576) (ga : a.size ≤ 65536) (hx : 65536 < b.size) :
    Calls Tryd.prog 7 #[.string a, .string b, .string c, .string d] w fun e w' => e = .returned (.bool true) ∧ Below w.heap.size w w' := by
  go_enter Tryd.func7, Tryd.ntmps7
  go_wp2_with fail
  refine (zzB7_yes a b c d _ h).mono ?_
  rintro e w1 ⟨rfl, rfl⟩
  go_wp2_with fail
  go_ret
  exact ⟨rfl, Below.refl _ _⟩

set_option maxRecDepth 100000 in
theorem law7_short2 (a : ByteArray) (b : ByteArray) (c : ByteArray) (d : ByteArray) (w : World) (h : a.size + b.size + c.size + d.size ≤ 1048576) (ga : a.size ≤ 65536) (gb : b.size ≤ 65536) (hx : 65536 < c.size) :
    Calls Tryd.prog 7 #[.string a, .string b, .string c, .string d] w fun e w' => e = .returned (.bool true) ∧ Below w.heap.size w w' := by
  go_enter Tryd.func7, Tryd.ntmps7
  go_wp2_with fail
  refine (zzB7_yes a b c d _ h).mono ?_
  rintro e w1 ⟨rfl, rfl⟩
  go_wp2_with fail
  go_ret
  exact ⟨rfl, Below.refl _ _⟩

set_option maxRecDepth 100000 in
theorem law7_short3 (a : ByteArray) (b : ByteArray) (c : ByteArray) (d : ByteArray) (w : World) (h : a.size + b.size + c.size + d.size ≤ 1048576) (ga : a.size ≤ 65536) (gb : b.size ≤ 65536) (gc : c.size ≤ 65536) (hx : 65536 < d.size) :
    Calls Tryd.prog 7 #[.string a, .string b, .string c, .string d] w fun e w' => e = .returned (.bool true) ∧ Below w.heap.size w w' := by
  go_enter Tryd.func7, Tryd.ntmps7
  go_wp2_with fail
  refine (zzB7_yes a b c d _ h).mono ?_
  rintro e w1 ⟨rfl, rfl⟩
  go_wp2_with fail
  go_ret
  exact ⟨rfl, Below.refl _ _⟩

set_option maxRecDepth 100000 in
theorem law7_sp0 (a : ByteArray) (b : ByteArray) (c : ByteArray) (d : ByteArray) (w : World) (h : a.size + b.size + c.size + d.size ≤ 1048576) (ga : a.size ≤ 65536) (gb : b.size ≤ 65536) (gc : c.size ≤ 65536) (gd : d.size ≤ 65536) (x1 : 32 ∈ a.data.toList) :
    Calls Tryd.prog 7 #[.string a, .string b, .string c, .string d] w fun e w' => e = .returned (.bool true) ∧ Below w.heap.size w w' := by
  go_enter Tryd.func7, Tryd.ntmps7
  go_wp2_with fail
  refine (zzB7_yes a b c d _ h).mono ?_
  rintro e w1 ⟨rfl, rfl⟩
  go_wp2_with fail
  refine (zzSp_yes a _ ga x1).mono ?_
  rintro e w1 ⟨rfl, rfl⟩
  go_wp2_with fail
  go_ret
  exact ⟨rfl, Below.refl _ _⟩

set_option maxRecDepth 100000 in
theorem law7_sp1 (a : ByteArray) (b : ByteArray) (c : ByteArray) (d : ByteArray) (w : World) (h : a.size + b.size + c.size + d.size ≤ 1048576) (ga : a.size ≤ 65536) (gb : b.size ≤ 65536) (gc : c.size ≤ 65536) (gd : d.size ≤ 65536) (x1 : 32 ∉ a.data.toList) (x2 : 32 ∈ c.data.toList) :
    Calls Tryd.prog 7 #[.string a, .string b, .string c, .string d] w fun e w' => e = .returned (.bool true) ∧ Below w.heap.size w w' := by
  go_enter Tryd.func7, Tryd.ntmps7
  go_wp2_with fail
  refine (zzB7_yes a b c d _ h).mono ?_
  rintro e w1 ⟨rfl, rfl⟩
  go_wp2_with fail
  refine (zzSp_no a _ ga x1).mono ?_
  rintro e w1 ⟨rfl, rfl⟩
  go_wp2_with fail
  refine (zzSp_yes c _ gc x2).mono ?_
  rintro e w1 ⟨rfl, rfl⟩
  go_wp2_with fail
  go_ret
  exact ⟨rfl, Below.refl _ _⟩

set_option maxRecDepth 100000 in
set_option maxHeartbeats 1000000 in
theorem law7_main (a : ByteArray) (b : ByteArray) (c : ByteArray) (d : ByteArray) (w : World) (h : a.size + b.size + c.size + d.size ≤ 1048576) (ga : a.size ≤ 65536) (gb : b.size ≤ 65536) (gc : c.size ≤ 65536) (gd : d.size ≤ 65536) (x1 : 32 ∉ a.data.toList) (x2 : 32 ∉ c.data.toList) (hab : Same2 a c b d) :
    Calls Tryd.prog 7 #[.string a, .string b, .string c, .string d] w fun e w' => e = .returned (.bool true) ∧ Below w.heap.size w w' := by
  have INJ := Lib.hid (elifT_inj a b c d x1 x2)
  have X1 := Lib.hid x1
  have X2 := Lib.hid x2
  clear x1 x2
  go_enter Tryd.func7, Tryd.ntmps7
  go_wp2_with fail
  refine (zzB7_yes a b c d _ h).mono ?_
  rintro e w1 ⟨rfl, rfl⟩
  go_wp2_with fail
  refine (zzSp_no a _ ga X1.out).mono ?_
  rintro e w1 ⟨rfl, rfl⟩
  go_wp2_with fail
  refine (zzSp_no c _ gc X2.out).mono ?_
  rintro e w1 ⟨rfl, rfl⟩
  go_wp2_with fail
  refine (zzQuery 0 a _ (by decide) (by decide) (fun e => absurd e (by decide))).mono ?_
  rintro e w1 ⟨q1, rfl, P1, l1⟩
  go_wp2_with fail
  refine (zzQuery 0 b _ (by decide) (by decide) (fun e => absurd e (by decide))).mono ?_
  rintro e w2 ⟨q2, rfl, P2, l2⟩
  go_wp2_with fail
  have B2 := l1.trans (l2.mono l1.size)
  have pe := ifelif_writeTo (w2.alloc (.cells #[.pointer (some ⟨q1, 0, none⟩), .pointer (some ⟨q2, 0, none⟩)] 57)) w2.heap.size ⟨q1, 0, none⟩ ⟨q2, 0, none⟩ _ _ (by simp) (by simp [go_sem]) (by simp [go_sem]) ((P1.later l2).later (below_fresh w2 _)) (P2.later (below_fresh w2 _))
  have b3 := below_fresh w2 (.cells #[.pointer (some ⟨q1, 0, none⟩), .pointer (some ⟨q2, 0, none⟩)] 57)
  refine (zzQuery 0 c _ (by decide) (by decide) (fun e => absurd e (by decide))).mono ?_
  rintro e w3 ⟨q3, rfl, P3, l3⟩
  have z3 := l3.size
  have pe3 := pe.later l3
  have B3 := B2.trans ((b3.trans (l3.mono b3.size)).mono B2.size)
  clear pe P1 P2 l1 l2 l3 b3 B2
  go_wp2_with fail
  refine (zzQuery 0 d _ (by decide) (by decide) (fun e => absurd e (by decide))).mono ?_
  rintro e w4 ⟨q4, rfl, P4, l4⟩
  go_wp2_with fail
  have B4 := B3.trans (l4.mono B3.size)
  have b5 := below_fresh w4 (.cells #[.pointer (some ⟨q3, 0, none⟩), .pointer (some ⟨q4, 0, none⟩)] 57)
  have pf := ifelif_writeTo (w4.alloc (.cells #[.pointer (some ⟨q3, 0, none⟩), .pointer (some ⟨q4, 0, none⟩)] 57)) w4.heap.size ⟨q3, 0, none⟩ ⟨q4, 0, none⟩ _ _ (by simp) (by simp [go_sem]) (by simp [go_sem]) ((P3.later l4).later b5) (P4.later b5)
  have pe5 := (pe3.later l4).later b5
  have B5 := B4.trans (b5.mono B4.size)
  clear P3 P4 l4 b5 B3 B4 pe3
  refine (ifelif_String_of _ _ _ pe5 (elifT a b) (elif0_text a b []) _ (Below.refl _ _) (by have := elifT_len a b; omega)).mono ?_
  rintro e w6 ⟨rfl, l6⟩
  go_wp2_with fail
  refine (ifelif_String_of _ _ _ pf (elifT c d) (elif0_text c d []) _ l6 (by have := elifT_len c d; omega)).mono ?_
  rintro e w7 ⟨rfl, l7⟩
  have B7 := B5.trans ((l6.trans (l7.mono l6.size)).mono B5.size)
  clear l6 l7 B5 pf pe5
  rcases hab with ⟨rfl, rfl⟩ | ⟨rfl, hn⟩ | hn
  · go_wp2_with fail
    go_ret
    exact ⟨rfl, B7⟩
  · have hq : (b.toList == d.toList) = false := toList_ne hn
    go_wp2_with fail
    go_ret
    refine ⟨ret_bool ?_, B7⟩
    have hz : (elifT a b == elifT a d) = false := by simpa using fun e => hn (INJ.out.1 e).2
    simp [hz]
  · have hq : (a.toList == c.toList) = false := toList_ne hn
    go_wp2_with fail
    go_ret
    refine ⟨ret_bool ?_, B7⟩
    have hz : (elifT a b == elifT c d) = false := by simpa using fun e => hn (INJ.out.1 e).1
    simp [hz]

theorem law7 (a : ByteArray) (b : ByteArray) (c : ByteArray) (d : ByteArray) (w : World)  (Ma : a.size ≤ maxLen) (Mb : b.size ≤ maxLen) (Mc : c.size ≤ maxLen) (Md : d.size ≤ maxLen) :
    Calls Tryd.prog 7 #[.string a, .string b, .string c, .string d] w fun e w' => e = .returned (.bool true) ∧ Below w.heap.size w w' := by
  unfold maxLen at *
  by_cases h : a.size + b.size + c.size + d.size ≤ 1048576
  rotate_left
  · exact law7_long a b c d w (by omega) (by omega) (by omega) (by omega) h
  by_cases ga : a.size ≤ 65536
  rotate_left
  · exact law7_short0 a b c d w h  (by omega)
  by_cases gb : b.size ≤ 65536
  rotate_left
  · exact law7_short1 a b c d w h ga (by omega)
  by_cases gc : c.size ≤ 65536
  rotate_left
  · exact law7_short2 a b c d w h ga gb (by omega)
  by_cases gd : d.size ≤ 65536
  rotate_left
  · exact law7_short3 a b c d w h ga gb gc (by omega)
  by_cases x1 : 32 ∈ a.data.toList
  · exact law7_sp0 a b c d w h ga gb gc gd x1
  by_cases x2 : 32 ∈ c.data.toList
  · exact law7_sp1 a b c d w h ga gb gc gd x1 x2
  refine law7_main a b c d w h ga gb gc gd x1 x2 ?_
  by_cases e1 : a = c
  · by_cases e2 : b = d
    · exact Or.inl ⟨e1, e2⟩
    · exact Or.inr (Or.inl ⟨e1, e2⟩)
  · exact Or.inr (Or.inr e1)
end Go.Proofs.YtejbdgkcoajpfaaDoor
