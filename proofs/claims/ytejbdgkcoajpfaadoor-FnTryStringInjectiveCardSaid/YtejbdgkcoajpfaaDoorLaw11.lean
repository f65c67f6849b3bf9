/- The walk of FnTryStringInjective: it returns true, whatever the arguments. -/
import Derived.Test.YtejbdgkcoajpfaaDoorInj
set_option linter.unusedVariables false
namespace Go.Proofs.YtejbdgkcoajpfaaDoor
open Go.Shelf Go.RowKit

theorem zzB11_yes (a : ByteArray) (hb : Bool) (b : ByteArray) (c : ByteArray) (hc : Bool) (d : ByteArray) (w : World) (h : a.size + b.size + c.size + d.size ≤ 1048576) :
    Calls Tryd.prog 36 #[.string a, .bool hb, .string b, .string c, .bool hc, .string d] w fun e w' => e = .returned (.bool true) ∧ w = w' := by
  go_enter Tryd.func36, Tryd.ntmps36
  go_wp2
  go_ret
  exact ⟨rfl, rfl⟩
theorem zzB11_no (a : ByteArray) (hb : Bool) (b : ByteArray) (c : ByteArray) (hc : Bool) (d : ByteArray) (w : World) (ma : a.size ≤ 9223372036854775807) (mb : b.size ≤ 9223372036854775807) (mc : c.size ≤ 9223372036854775807) (md : d.size ≤ 9223372036854775807) (h : ¬ a.size + b.size + c.size + d.size ≤ 1048576) :
    Calls Tryd.prog 36 #[.string a, .bool hb, .string b, .string c, .bool hc, .string d] w fun e w' => e = .returned (.bool false) ∧ w = w' := by
  go_enter Tryd.func36, Tryd.ntmps36
  go_wp2
  all_goals
    go_ret
    exact ⟨rfl, rfl⟩

set_option maxRecDepth 100000 in
theorem law11_long (a : ByteArray) (hb : Bool) (b : ByteArray) (c : ByteArray) (hc : Bool) (d : ByteArray) (w : World) (ma : a.size ≤ 9223372036854775807) (mb : b.size ≤ 9223372036854775807) (mc : c.size ≤ 9223372036854775807) (md : d.size ≤ 9223372036854775807) (h : ¬ a.size + b.size + c.size + d.size ≤ 1048576) :
    Calls Tryd.prog 11 #[.string a, .bool hb, .string b, .string c, .bool hc, .string d] w fun e w' => e = .returned (.bool true) ∧ Below w.heap.size w w' := by
  go_enter Tryd.func11, Tryd.ntmps11
  go_wp2_with fail
  refine (zzB11_no a hb b c hc d _ ma mb mc md h).mono ?_
  rintro e w1 ⟨rfl, rfl⟩
  go_wp2_with fail
  go_ret
  exact ⟨rfl, Below.refl _ _⟩

set_option maxRecDepth 100000 in
theorem law11_short0 (a : ByteArray) (hb : Bool) (b : ByteArray) (c : ByteArray) (hc : Bool) (d : ByteArray) (w : World) (h : a.size + b.size + c.size + d.size ≤ 1048576)  (hx : 65536 < a.size) :
    Calls Tryd.prog 11 #[.string a, .bool hb, .string b, .string c, .bool hc, .string d] w fun e w' => e = .returned (.bool true) ∧ Below w.heap.size w w' := by
  go_enter Tryd.func11, Tryd.ntmps11
  go_wp2_with fail
  refine (zzB11_yes a hb b c hc d _ h).mono ?_
  rintro e w1 ⟨rfl, rfl⟩
  go_wp2_with fail
  go_ret
  exact ⟨rfl, Below.refl _ _⟩

set_option maxRecDepth 100000 in
theorem law11_short1 (a : ByteArray) (hb : Bool) (b : ByteArray) (c : ByteArray) (hc : Bool) (d : ByteArray) (w : World) (h : a.size + b.size + c.size + d.size ≤ 1048576) (ga : a.size ≤ 65536) (hx : 65536 < b.size) :
    Calls Tryd.prog 11 #[.string a, .bool hb, .string b, .string c, .bool hc, .string d] w fun e w' => e = .returned (.bool true) ∧ Below w.heap.size w w' := by
  go_enter Tryd.func11, Tryd.ntmps11
  go_wp2_with fail
  refine (zzB11_yes a hb b c hc d _ h).mono ?_
  rintro e w1 ⟨rfl, rfl⟩
  go_wp2_with fail
  go_ret
  exact ⟨rfl, Below.refl _ _⟩

set_option maxRecDepth 100000 in
theorem law11_short2 (a : ByteArray) (hb : Bool) (b : ByteArray) (c : ByteArray) (hc : Bool) (d : ByteArray) (w : World) (h : a.size + b.size + c.size + d.size ≤ 1048576) (ga : a.size ≤ 65536) (gb : b.size ≤ 65536) (hx : 65536 < c.size) :
    Calls Tryd.prog 11 #[.string a, .bool hb, .string b, .string c, .bool hc, .string d] w fun e w' => e = .returned (.bool true) ∧ Below w.heap.size w w' := by
  go_enter Tryd.func11, Tryd.ntmps11
  go_wp2_with fail
  refine (zzB11_yes a hb b c hc d _ h).mono ?_
  rintro e w1 ⟨rfl, rfl⟩
  go_wp2_with fail
  go_ret
  exact ⟨rfl, Below.refl _ _⟩

set_option maxRecDepth 100000 in
theorem law11_short3 (a : ByteArray) (hb : Bool) (b : ByteArray) (c : ByteArray) (hc : Bool) (d : ByteArray) (w : World) (h : a.size + b.size + c.size + d.size ≤ 1048576) (ga : a.size ≤ 65536) (gb : b.size ≤ 65536) (gc : c.size ≤ 65536) (hx : 65536 < d.size) :
    Calls Tryd.prog 11 #[.string a, .bool hb, .string b, .string c, .bool hc, .string d] w fun e w' => e = .returned (.bool true) ∧ Below w.heap.size w w' := by
  go_enter Tryd.func11, Tryd.ntmps11
  go_wp2_with fail
  refine (zzB11_yes a hb b c hc d _ h).mono ?_
  rintro e w1 ⟨rfl, rfl⟩
  go_wp2_with fail
  go_ret
  exact ⟨rfl, Below.refl _ _⟩

set_option maxRecDepth 100000 in
theorem law11_sp0 (a : ByteArray) (hb : Bool) (b : ByteArray) (c : ByteArray) (hc : Bool) (d : ByteArray) (w : World) (h : a.size + b.size + c.size + d.size ≤ 1048576) (ga : a.size ≤ 65536) (gb : b.size ≤ 65536) (gc : c.size ≤ 65536) (gd : d.size ≤ 65536) (x1 : 32 ∈ a.data.toList) :
    Calls Tryd.prog 11 #[.string a, .bool hb, .string b, .string c, .bool hc, .string d] w fun e w' => e = .returned (.bool true) ∧ Below w.heap.size w w' := by
  go_enter Tryd.func11, Tryd.ntmps11
  go_wp2_with fail
  refine (zzB11_yes a hb b c hc d _ h).mono ?_
  rintro e w1 ⟨rfl, rfl⟩
  go_wp2_with fail
  refine (zzSp_yes a _ ga x1).mono ?_
  rintro e w1 ⟨rfl, rfl⟩
  go_wp2_with fail
  go_ret
  exact ⟨rfl, Below.refl _ _⟩

set_option maxRecDepth 100000 in
theorem law11_sp1 (a : ByteArray) (hb : Bool) (b : ByteArray) (c : ByteArray) (hc : Bool) (d : ByteArray) (w : World) (h : a.size + b.size + c.size + d.size ≤ 1048576) (ga : a.size ≤ 65536) (gb : b.size ≤ 65536) (gc : c.size ≤ 65536) (gd : d.size ≤ 65536) (x1 : 32 ∉ a.data.toList) (x2 : 32 ∈ c.data.toList) :
    Calls Tryd.prog 11 #[.string a, .bool hb, .string b, .string c, .bool hc, .string d] w fun e w' => e = .returned (.bool true) ∧ Below w.heap.size w w' := by
  go_enter Tryd.func11, Tryd.ntmps11
  go_wp2_with fail
  refine (zzB11_yes a hb b c hc d _ h).mono ?_
  rintro e w1 ⟨rfl, rfl⟩
  go_wp2_with fail
  refine (zzSp_no a _ ga x1).mono ?_
  rintro e w1 ⟨rfl, rfl⟩
  go_wp2_with fail
  refine (zzSp_yes c _ gc x2).mono ?_
  rintro e w1 ⟨rfl, rfl⟩
  go_wp2_with fail
  go_ret
  exact ⟨rfl, Below.refl _ _⟩

set_option maxRecDepth 100000 in
set_option maxHeartbeats 1000000 in
theorem law11_ff (a : ByteArray) (b : ByteArray) (c : ByteArray) (d : ByteArray) (w : World) (h : a.size + b.size + c.size + d.size ≤ 1048576) (ga : a.size ≤ 65536) (gb : b.size ≤ 65536) (gc : c.size ≤ 65536) (gd : d.size ≤ 65536) (x1 : 32 ∉ a.data.toList) (x2 : 32 ∉ c.data.toList) (hab : a = c ∨ ¬ a = c) :
    Calls Tryd.prog 11 #[.string a, .bool false, .string b, .string c, .bool false, .string d] w fun e w' => e = .returned (.bool true) ∧ Below w.heap.size w w' := by
  have X1 := Lib.hid x1
  have X2 := Lib.hid x2
  clear x1 x2
  go_enter Tryd.func11, Tryd.ntmps11
  go_wp2_with fail
  refine (zzB11_yes a false b c false d _ h).mono ?_
  rintro e w1 ⟨rfl, rfl⟩
  go_wp2_with fail
  refine (zzSp_no a _ ga X1.out).mono ?_
  rintro e w1 ⟨rfl, rfl⟩
  go_wp2_with fail
  refine (zzSp_no c _ gc X2.out).mono ?_
  rintro e w1 ⟨rfl, rfl⟩
  go_wp2_with fail
  refine (zzQuery 0 a _ (by decide) (by decide) (fun e => absurd e (by decide))).mono ?_
  rintro e u1 ⟨q1, rfl, P1, l1⟩
  go_wp2_with fail
  have PE1 := try_bare (u1.alloc (.cells #[.pointer (some ⟨q1, 0, none⟩), .pointer none] 63)) u1.heap.size ⟨q1, 0, none⟩ _ (by simp) (by simp [go_sem]) (by simp [go_sem]) (P1.later (below_fresh u1 _))
  have BE1 := below_fresh u1 (.cells #[.pointer (some ⟨q1, 0, none⟩), .pointer none] 63)
  clear P1
  go_wp2_with fail
  refine (zzQuery 0 c _ (by decide) (by decide) (fun e => absurd e (by decide))).mono ?_
  rintro e u2 ⟨q2, rfl, P2, l2⟩
  have PF1 := PE1.later l2
  have BF1 := l1.trans (BE1.mono l1.size)
  have BF2 := BF1.trans (l2.mono BF1.size)
  clear PE1 BE1 l1 l2
  go_wp2_with fail
  have PE2 := try_bare (u2.alloc (.cells #[.pointer (some ⟨q2, 0, none⟩), .pointer none] 63)) u2.heap.size ⟨q2, 0, none⟩ _ (by simp) (by simp [go_sem]) (by simp [go_sem]) (P2.later (below_fresh u2 _))
  have BE2 := below_fresh u2 (.cells #[.pointer (some ⟨q2, 0, none⟩), .pointer none] 63)
  clear P2
  have PG1 := PF1.later BE2
  have BG := BF2.trans (BE2.mono BF2.size)
  clear PF1 BE2 BF1 BF2
  refine (try_String_of _ _ _ PG1 (tryL a false b) (try0_text a b []) _ (Below.refl _ _) (by have := tryL_len a b false; omega)).mono ?_
  rintro e w6 ⟨rfl, l6⟩
  go_wp2_with fail
  refine (try_String_of _ _ _ PE2 (tryL c false d) (try0_text c d []) _ l6 (by have := tryL_len c d false; omega)).mono ?_
  rintro e w7 ⟨rfl, l7⟩
  have B7 := BG.trans ((l6.trans (l7.mono l6.size)).mono BG.size)
  clear l6 l7 BG PG1 PE2
  rcases hab with rfl | hn
  · have hz : (tryL a false b == tryL a false d) = true := by
      simpa using (tryL_inj _ _ _ _ _ _ X1.out X2.out).2 ⟨rfl, rfl, fun e => by cases e⟩
    go_wp2_with fail
    go_ret
    refine ⟨ret_bool ?_, B7⟩
    simp
  · have hq : (a.toList == c.toList) = false := toList_ne hn
    go_wp2_with fail
    go_ret
    refine ⟨ret_bool ?_, B7⟩
    have hz : (tryL a false b == tryL c false d) = false := by simpa using fun e => hn ((tryL_inj _ _ _ _ _ _ X1.out X2.out).1 e).1
    simp [hz]

set_option maxRecDepth 100000 in
set_option maxHeartbeats 1000000 in
theorem law11_ft (a : ByteArray) (b : ByteArray) (c : ByteArray) (d : ByteArray) (w : World) (h : a.size + b.size + c.size + d.size ≤ 1048576) (ga : a.size ≤ 65536) (gb : b.size ≤ 65536) (gc : c.size ≤ 65536) (gd : d.size ≤ 65536) (x1 : 32 ∉ a.data.toList) (x2 : 32 ∉ c.data.toList) (hab : a = c ∨ ¬ a = c) :
    Calls Tryd.prog 11 #[.string a, .bool false, .string b, .string c, .bool true, .string d] w fun e w' => e = .returned (.bool true) ∧ Below w.heap.size w w' := by
  have X1 := Lib.hid x1
  have X2 := Lib.hid x2
  clear x1 x2
  go_enter Tryd.func11, Tryd.ntmps11
  go_wp2_with fail
  refine (zzB11_yes a false b c true d _ h).mono ?_
  rintro e w1 ⟨rfl, rfl⟩
  go_wp2_with fail
  refine (zzSp_no a _ ga X1.out).mono ?_
  rintro e w1 ⟨rfl, rfl⟩
  go_wp2_with fail
  refine (zzSp_no c _ gc X2.out).mono ?_
  rintro e w1 ⟨rfl, rfl⟩
  go_wp2_with fail
  refine (zzQuery 0 a _ (by decide) (by decide) (fun e => absurd e (by decide))).mono ?_
  rintro e u1 ⟨q1, rfl, P1, l1⟩
  go_wp2_with fail
  have PE1 := try_bare (u1.alloc (.cells #[.pointer (some ⟨q1, 0, none⟩), .pointer none] 63)) u1.heap.size ⟨q1, 0, none⟩ _ (by simp) (by simp [go_sem]) (by simp [go_sem]) (P1.later (below_fresh u1 _))
  have BE1 := below_fresh u1 (.cells #[.pointer (some ⟨q1, 0, none⟩), .pointer none] 63)
  clear P1
  go_wp2_with fail
  refine (zzQuery 0 c _ (by decide) (by decide) (fun e => absurd e (by decide))).mono ?_
  rintro e u2 ⟨q2, rfl, P2, l2⟩
  have PF1 := PE1.later l2
  have BF1 := l1.trans (BE1.mono l1.size)
  have BF2 := BF1.trans (l2.mono BF1.size)
  clear PE1 BE1 l1 l2
  go_wp2_with fail
  refine (zzQueryF 0 d _ (by decide) (by decide) (fun e => absurd e (by decide))).mono ?_
  rintro e v2 ⟨r2, rfl, Q2, m2⟩
  obtain ⟨zz2, e02, e12, f12, PE2, BE2⟩ := try_made u2 v2 q2 r2 _ _ P2 m2 Q2
  clear P2 Q2 m2
  go_wp2_with fail
  have PG1 := PF1.later BE2
  have BG := BF2.trans (BE2.mono BF2.size)
  clear PF1 BE2 BF1 BF2
  refine (try_String_of _ _ _ PG1 (tryL a false b) (try0_text a b []) _ (Below.refl _ _) (by have := tryL_len a b false; omega)).mono ?_
  rintro e w6 ⟨rfl, l6⟩
  go_wp2_with fail
  refine (try_String_of _ _ _ PE2 (tryL c true d) (tryc0_text c d []) _ l6 (by have := tryL_len c d true; omega)).mono ?_
  rintro e w7 ⟨rfl, l7⟩
  have B7 := BG.trans ((l6.trans (l7.mono l6.size)).mono BG.size)
  clear l6 l7 BG PG1 PE2
  rcases hab with rfl | hn
  · have hz : (tryL a false b == tryL a true d) = false := by
      simpa using fun e => absurd ((tryL_inj _ _ _ _ _ _ X1.out X2.out).1 e).2.1 (by decide)
    go_wp2_with fail
    go_ret
    refine ⟨ret_bool ?_, B7⟩
    simp
  · have hq : (a.toList == c.toList) = false := toList_ne hn
    go_wp2_with fail
    go_ret
    refine ⟨ret_bool ?_, B7⟩
    have hz : (tryL a false b == tryL c true d) = false := by simpa using fun e => hn ((tryL_inj _ _ _ _ _ _ X1.out X2.out).1 e).1
    simp [hz]

set_option maxRecDepth 100000 in
set_option maxHeartbeats 1000000 in
theorem law11_tf (a : ByteArray) (b : ByteArray) (c : ByteArray) (d : ByteArray) (w : World) (h : a.size + b.size + c.size + d.size ≤ 1048576) (ga : a.size ≤ 65536) (gb : b.size ≤ 65536) (gc : c.size ≤ 65536) (gd : d.size ≤ 65536) (x1 : 32 ∉ a.data.toList) (x2 : 32 ∉ c.data.toList) (hab : a = c ∨ ¬ a = c) :
    Calls Tryd.prog 11 #[.string a, .bool true, .string b, .string c, .bool false, .string d] w fun e w' => e = .returned (.bool true) ∧ Below w.heap.size w w' := by
  have X1 := Lib.hid x1
  have X2 := Lib.hid x2
  clear x1 x2
  go_enter Tryd.func11, Tryd.ntmps11
  go_wp2_with fail
  refine (zzB11_yes a true b c false d _ h).mono ?_
  rintro e w1 ⟨rfl, rfl⟩
  go_wp2_with fail
  refine (zzSp_no a _ ga X1.out).mono ?_
  rintro e w1 ⟨rfl, rfl⟩
  go_wp2_with fail
  refine (zzSp_no c _ gc X2.out).mono ?_
  rintro e w1 ⟨rfl, rfl⟩
  go_wp2_with fail
  refine (zzQuery 0 a _ (by decide) (by decide) (fun e => absurd e (by decide))).mono ?_
  rintro e u1 ⟨q1, rfl, P1, l1⟩
  go_wp2_with fail
  refine (zzQueryF 0 b _ (by decide) (by decide) (fun e => absurd e (by decide))).mono ?_
  rintro e v1 ⟨r1, rfl, Q1, m1⟩
  obtain ⟨zz1, e01, e11, f11, PE1, BE1⟩ := try_made u1 v1 q1 r1 _ _ P1 m1 Q1
  clear P1 Q1 m1
  go_wp2_with fail
  refine (zzQuery 0 c _ (by decide) (by decide) (fun e => absurd e (by decide))).mono ?_
  rintro e u2 ⟨q2, rfl, P2, l2⟩
  have PF1 := PE1.later l2
  have BF1 := l1.trans (BE1.mono l1.size)
  have BF2 := BF1.trans (l2.mono BF1.size)
  clear PE1 BE1 l1 l2
  go_wp2_with fail
  have PE2 := try_bare (u2.alloc (.cells #[.pointer (some ⟨q2, 0, none⟩), .pointer none] 63)) u2.heap.size ⟨q2, 0, none⟩ _ (by simp) (by simp [go_sem]) (by simp [go_sem]) (P2.later (below_fresh u2 _))
  have BE2 := below_fresh u2 (.cells #[.pointer (some ⟨q2, 0, none⟩), .pointer none] 63)
  clear P2
  have PG1 := PF1.later BE2
  have BG := BF2.trans (BE2.mono BF2.size)
  clear PF1 BE2 BF1 BF2
  refine (try_String_of _ _ _ PG1 (tryL a true b) (tryc0_text a b []) _ (Below.refl _ _) (by have := tryL_len a b true; omega)).mono ?_
  rintro e w6 ⟨rfl, l6⟩
  go_wp2_with fail
  refine (try_String_of _ _ _ PE2 (tryL c false d) (try0_text c d []) _ l6 (by have := tryL_len c d false; omega)).mono ?_
  rintro e w7 ⟨rfl, l7⟩
  have B7 := BG.trans ((l6.trans (l7.mono l6.size)).mono BG.size)
  clear l6 l7 BG PG1 PE2
  rcases hab with rfl | hn
  · have hz : (tryL a true b == tryL a false d) = false := by
      simpa using fun e => absurd ((tryL_inj _ _ _ _ _ _ X1.out X2.out).1 e).2.1 (by decide)
    go_wp2_with fail
    go_ret
    refine ⟨ret_bool ?_, B7⟩
    simp
  · have hq : (a.toList == c.toList) = false := toList_ne hn
    go_wp2_with fail
    go_ret
    refine ⟨ret_bool ?_, B7⟩
    have hz : (tryL a true b == tryL c false d) = false := by simpa using fun e => hn ((tryL_inj _ _ _ _ _ _ X1.out X2.out).1 e).1
    simp [hz]

set_option maxRecDepth 100000 in
set_option maxHeartbeats 1000000 in
theorem law11_tt (a : ByteArray) (b : ByteArray) (c : ByteArray) (d : ByteArray) (w : World) (h : a.size + b.size + c.size + d.size ≤ 1048576) (ga : a.size ≤ 65536) (gb : b.size ≤ 65536) (gc : c.size ≤ 65536) (gd : d.size ≤ 65536) (x1 : 32 ∉ a.data.toList) (x2 : 32 ∉ c.data.toList) (hab : Same2 a c b d) :
    Calls Tryd.prog 11 #[.string a, .bool true, .string b, .string c, .bool true, .string d] w fun e w' => e = .returned (.bool true) ∧ Below w.heap.size w w' := by
  have X1 := Lib.hid x1
  have X2 := Lib.hid x2
  clear x1 x2
  go_enter Tryd.func11, Tryd.ntmps11
  go_wp2_with fail
  refine (zzB11_yes a true b c true d _ h).mono ?_
  rintro e w1 ⟨rfl, rfl⟩
  go_wp2_with fail
  refine (zzSp_no a _ ga X1.out).mono ?_
  rintro e w1 ⟨rfl, rfl⟩
  go_wp2_with fail
  refine (zzSp_no c _ gc X2.out).mono ?_
  rintro e w1 ⟨rfl, rfl⟩
  go_wp2_with fail
  refine (zzQuery 0 a _ (by decide) (by decide) (fun e => absurd e (by decide))).mono ?_
  rintro e u1 ⟨q1, rfl, P1, l1⟩
  go_wp2_with fail
  refine (zzQueryF 0 b _ (by decide) (by decide) (fun e => absurd e (by decide))).mono ?_
  rintro e v1 ⟨r1, rfl, Q1, m1⟩
  obtain ⟨zz1, e01, e11, f11, PE1, BE1⟩ := try_made u1 v1 q1 r1 _ _ P1 m1 Q1
  clear P1 Q1 m1
  go_wp2_with fail
  refine (zzQuery 0 c _ (by decide) (by decide) (fun e => absurd e (by decide))).mono ?_
  rintro e u2 ⟨q2, rfl, P2, l2⟩
  have PF1 := PE1.later l2
  have BF1 := l1.trans (BE1.mono l1.size)
  have BF2 := BF1.trans (l2.mono BF1.size)
  clear PE1 BE1 l1 l2
  go_wp2_with fail
  refine (zzQueryF 0 d _ (by decide) (by decide) (fun e => absurd e (by decide))).mono ?_
  rintro e v2 ⟨r2, rfl, Q2, m2⟩
  obtain ⟨zz2, e02, e12, f12, PE2, BE2⟩ := try_made u2 v2 q2 r2 _ _ P2 m2 Q2
  clear P2 Q2 m2
  go_wp2_with fail
  have PG1 := PF1.later BE2
  have BG := BF2.trans (BE2.mono BF2.size)
  clear PF1 BE2 BF1 BF2
  refine (try_String_of _ _ _ PG1 (tryL a true b) (tryc0_text a b []) _ (Below.refl _ _) (by have := tryL_len a b true; omega)).mono ?_
  rintro e w6 ⟨rfl, l6⟩
  go_wp2_with fail
  refine (try_String_of _ _ _ PE2 (tryL c true d) (tryc0_text c d []) _ l6 (by have := tryL_len c d true; omega)).mono ?_
  rintro e w7 ⟨rfl, l7⟩
  have B7 := BG.trans ((l6.trans (l7.mono l6.size)).mono BG.size)
  clear l6 l7 BG PG1 PE2
  rcases hab with ⟨rfl, rfl⟩ | ⟨rfl, hn⟩ | hn
  · go_wp2_with fail
    go_ret
    exact ⟨rfl, B7⟩
  · have hq : (b.toList == d.toList) = false := toList_ne hn
    go_wp2_with fail
    go_ret
    refine ⟨ret_bool ?_, B7⟩
    have hz : (tryL a true b == tryL a true d) = false := by simpa using fun e => hn (((tryL_inj _ _ _ _ _ _ X1.out X2.out).1 e).2.2 rfl)
    simp [hz]
  · have hq : (a.toList == c.toList) = false := toList_ne hn
    go_wp2_with fail
    go_ret
    refine ⟨ret_bool ?_, B7⟩
    have hz : (tryL a true b == tryL c true d) = false := by simpa using fun e => hn ((tryL_inj _ _ _ _ _ _ X1.out X2.out).1 e).1
    simp [hz]

theorem law11 (a : ByteArray) (hb : Bool) (b : ByteArray) (c : ByteArray) (hc : Bool) (d : ByteArray) (w : World)  (Ma : a.size ≤ maxLen) (Mb : b.size ≤ maxLen) (Mc : c.size ≤ maxLen) (Md : d.size ≤ maxLen) :
    Calls Tryd.prog 11 #[.string a, .bool hb, .string b, .string c, .bool hc, .string d] w fun e w' => e = .returned (.bool true) ∧ Below w.heap.size w w' := by
  unfold maxLen at *
  by_cases h : a.size + b.size + c.size + d.size ≤ 1048576
  rotate_left
  · exact law11_long a hb b c hc d w (by omega) (by omega) (by omega) (by omega) h
  by_cases ga : a.size ≤ 65536
  rotate_left
  · exact law11_short0 a hb b c hc d w h  (by omega)
  by_cases gb : b.size ≤ 65536
  rotate_left
  · exact law11_short1 a hb b c hc d w h ga (by omega)
  by_cases gc : c.size ≤ 65536
  rotate_left
  · exact law11_short2 a hb b c hc d w h ga gb (by omega)
  by_cases gd : d.size ≤ 65536
  rotate_left
  · exact law11_short3 a hb b c hc d w h ga gb gc (by omega)
  by_cases x1 : 32 ∈ a.data.toList
  · exact law11_sp0 a hb b c hc d w h ga gb gc gd x1
  by_cases x2 : 32 ∈ c.data.toList
  · exact law11_sp1 a hb b c hc d w h ga gb gc gd x1 x2
  cases hb <;> cases hc
  · exact law11_ff a b c d w h ga gb gc gd x1 x2 (Decidable.em _)
  · exact law11_ft a b c d w h ga gb gc gd x1 x2 (Decidable.em _)
  · exact law11_tf a b c d w h ga gb gc gd x1 x2 (Decidable.em _)
  · refine law11_tt a b c d w h ga gb gc gd x1 x2 (?_)
    by_cases e1 : a = c
    · by_cases e2 : b = d
      · exact Or.inl ⟨e1, e2⟩
      · exact Or.inr (Or.inl ⟨e1, e2⟩)
    · exact Or.inr (Or.inr e1)
end Go.Proofs.YtejbdgkcoajpfaaDoor
