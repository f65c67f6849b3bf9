/- The walk of FnIfElifWriteToModel: it returns true, whatever the arguments. -/
import Derived.Test.YtejbdgkcoajpfaaDoorLaw4
set_option linter.unusedVariables false
namespace Go.Proofs.YtejbdgkcoajpfaaDoor
open Go.Shelf Go.RowKit

theorem zzB5_yes (p : ByteArray) (a : Int) (s : ByteArray) (c : Int) (t : ByteArray) (w : World) (h : p.size + s.size + t.size ≤ 1048576) :
    Calls Tryd.prog 25 #[.string p, .int .u8 a, .string s, .int .u8 c, .string t] w fun e w' => e = .returned (.bool true) ∧ w = w' := by
  go_enter Tryd.func25, Tryd.ntmps25
  go_wp2
  go_ret
  exact ⟨rfl, rfl⟩
theorem zzB5_no (p : ByteArray) (a : Int) (s : ByteArray) (c : Int) (t : ByteArray) (w : World) (hp : p.size ≤ 9223372036854775807) (hs : s.size ≤ 9223372036854775807) (ht : t.size ≤ 9223372036854775807) (h : ¬ p.size + s.size + t.size ≤ 1048576) :
    Calls Tryd.prog 25 #[.string p, .int .u8 a, .string s, .int .u8 c, .string t] w fun e w' => e = .returned (.bool false) ∧ w = w' := by
  go_enter Tryd.func25, Tryd.ntmps25
  go_wp2
  all_goals
    go_ret
    exact ⟨rfl, rfl⟩

set_option maxRecDepth 100000 in
theorem law5_long (p : ByteArray) (a : Int) (s : ByteArray) (c : Int) (t : ByteArray) (w : World) (hp : p.size ≤ 9223372036854775807) (hs : s.size ≤ 9223372036854775807) (ht : t.size ≤ 9223372036854775807) (h : ¬ p.size + s.size + t.size ≤ 1048576) :
    Calls Tryd.prog 5 #[.string p, .int .u8 a, .string s, .int .u8 c, .string t] w fun e w' => e = .returned (.bool true) ∧ Below w.heap.size w w' := by
  go_enter Tryd.func5, Tryd.ntmps5
  go_wp2_with fail
  refine (zzB5_no p a s c t _ hp hs ht h).mono ?_
  rintro e w1 ⟨rfl, rfl⟩
  go_wp2_with fail
  go_ret
  exact ⟨rfl, Below.refl _ _⟩

set_option maxRecDepth 100000 in
theorem law5_short0 (p : ByteArray) (a : Int) (s : ByteArray) (c : Int) (t : ByteArray) (w : World) (h : p.size + s.size + t.size ≤ 1048576)  (hx : 65536 < p.size) :
    Calls Tryd.prog 5 #[.string p, .int .u8 a, .string s, .int .u8 c, .string t] w fun e w' => e = .returned (.bool true) ∧ Below w.heap.size w w' := by
  go_enter Tryd.func5, Tryd.ntmps5
  go_wp2_with fail
  refine (zzB5_yes p a s c t _ h).mono ?_
  rintro e w1 ⟨rfl, rfl⟩
  go_wp2_with fail
  go_ret
  exact ⟨rfl, Below.refl _ _⟩

set_option maxRecDepth 100000 in
theorem law5_short1 (p : ByteArray) (a : Int) (s : ByteArray) (c : Int) (t : ByteArray) (w : World) (h : p.size + s.size + t.size ≤ 1048576) (hp : p.size ≤ 65536) (hx : 65536 < s.size) :
    Calls Tryd.prog 5 #[.string p, .int .u8 a, .string s, .int .u8 c, .string t] w fun e w' => e = .returned (.bool true) ∧ Below w.heap.size w w' := by
  go_enter Tryd.func5, Tryd.ntmps5
  go_wp2_with fail
  refine (zzB5_yes p a s c t _ h).mono ?_
  rintro e w1 ⟨rfl, rfl⟩
  go_wp2_with fail
  go_ret
  exact ⟨rfl, Below.refl _ _⟩

set_option maxRecDepth 100000 in
theorem law5_short2 (p : ByteArray) (a : Int) (s : ByteArray) (c : Int) (t : ByteArray) (w : World) (h : p.size + s.size + t.size ≤ 1048576) (hp : p.size ≤ 65536) (hs : s.size ≤ 65536) (hx : 65536 < t.size) :
    Calls Tryd.prog 5 #[.string p, .int .u8 a, .string s, .int .u8 c, .string t] w fun e w' => e = .returned (.bool true) ∧ Below w.heap.size w w' := by
  go_enter Tryd.func5, Tryd.ntmps5
  go_wp2_with fail
  refine (zzB5_yes p a s c t _ h).mono ?_
  rintro e w1 ⟨rfl, rfl⟩
  go_wp2_with fail
  go_ret
  exact ⟨rfl, Below.refl _ _⟩

set_option maxRecDepth 100000 in
theorem law5_bad0 (p : ByteArray) (a : Int) (s : ByteArray) (c : Int) (t : ByteArray) (w : World) (a0 : 0 ≤ a) (a1 : a < 256) (c0 : 0 ≤ c) (c1 : c < 256) (h : p.size + s.size + t.size ≤ 1048576) (hp : p.size ≤ 65536) (hs : s.size ≤ 65536) (ht : t.size ≤ 65536)  (bx : badB a s = true) :
    Calls Tryd.prog 5 #[.string p, .int .u8 a, .string s, .int .u8 c, .string t] w fun e w' => e = .returned (.bool true) ∧ Below w.heap.size w w' := by
  go_enter Tryd.func5, Tryd.ntmps5
  go_wp2_with fail
  refine (zzB5_yes p a s c t _ h).mono ?_
  rintro e w1 ⟨rfl, rfl⟩
  go_wp2_with fail
  refine (zzBad a s _ a0 a1).mono ?_
  rintro e w1 ⟨rfl, rfl⟩
  go_wp2_with fail
  go_ret
  exact ⟨rfl, Below.refl _ _⟩

set_option maxRecDepth 100000 in
theorem law5_bad1 (p : ByteArray) (a : Int) (s : ByteArray) (c : Int) (t : ByteArray) (w : World) (a0 : 0 ≤ a) (a1 : a < 256) (c0 : 0 ≤ c) (c1 : c < 256) (h : p.size + s.size + t.size ≤ 1048576) (hp : p.size ≤ 65536) (hs : s.size ≤ 65536) (ht : t.size ≤ 65536) (b0 : badB a s = false) (bx : badB c t = true) :
    Calls Tryd.prog 5 #[.string p, .int .u8 a, .string s, .int .u8 c, .string t] w fun e w' => e = .returned (.bool true) ∧ Below w.heap.size w w' := by
  go_enter Tryd.func5, Tryd.ntmps5
  go_wp2_with fail
  refine (zzB5_yes p a s c t _ h).mono ?_
  rintro e w1 ⟨rfl, rfl⟩
  go_wp2_with fail
  refine (zzBad a s _ a0 a1).mono ?_
  rintro e w1 ⟨rfl, rfl⟩
  go_wp2_with fail
  refine (zzBad c t _ c0 c1).mono ?_
  rintro e w1 ⟨rfl, rfl⟩
  go_wp2_with fail
  go_ret
  exact ⟨rfl, Below.refl _ _⟩

set_option maxRecDepth 100000 in
set_option maxHeartbeats 1000000 in
theorem law5_main (p : ByteArray) (a : Int) (s : ByteArray) (c : Int) (t : ByteArray) (w : World) (a0 : 0 ≤ a) (a1 : a < 256) (c0 : 0 ≤ c) (c1 : c < 256) (h : p.size + s.size + t.size ≤ 1048576) (hp : p.size ≤ 65536) (hs : s.size ≤ 65536) (ht : t.size ≤ 65536) (b0 : badB a s = false) (b1 : badB c t = false) :
    Calls Tryd.prog 5 #[.string p, .int .u8 a, .string s, .int .u8 c, .string t] w fun e w' => e = .returned (.bool true) ∧ Below w.heap.size w w' := by
  have HB0 := Lib.hid (show a % 4 = 1 → s.toList.isEmpty = false from fun e => by simpa [badB, e] using b0)
  have HB1 := Lib.hid (show c % 4 = 1 → t.toList.isEmpty = false from fun e => by simpa [badB, e] using b1)
  go_enter Tryd.func5, Tryd.ntmps5
  go_wp2_with fail
  refine (zzB5_yes p a s c t _ h).mono ?_
  rintro e w1 ⟨rfl, rfl⟩
  go_wp2_with fail
  refine (zzBad a s _ a0 a1).mono ?_
  rintro e w1 ⟨rfl, rfl⟩
  go_wp2_with fail
  refine (zzBad c t _ c0 c1).mono ?_
  rintro e w1 ⟨rfl, rfl⟩
  go_wp2_with fail
  refine (zzQuery a s _ a0 a1 HB0.out).mono ?_
  rintro e w1 ⟨q1, rfl, P1, l1⟩
  go_wp2_with fail
  refine (zzQuery c t _ c0 c1 HB1.out).mono ?_
  rintro e w2 ⟨q2, rfl, P2, l2⟩
  go_wp2_with fail
  have pe := ifelif_writeTo (w2.alloc (.cells #[.pointer (some ⟨q1, 0, none⟩), .pointer (some ⟨q2, 0, none⟩)] 57)) w2.heap.size ⟨q1, 0, none⟩ ⟨q2, 0, none⟩ _ _ (by simp) (by simp [go_sem]) (by simp [go_sem]) ((P1.later l2).later (below_fresh w2 _)) (P2.later (below_fresh w2 _))
  have et := elif_text a c s t p.data.toList
  have n1 := smallT_len a s
  have n2 := smallT_len c t
  have n3 := Lib.size_eq p
  have NN : p.data.toList.length + (fElif (smallF a s) (smallF c t) p.data.toList).length ≤ 1099511627776 := by
    rw [et]; simp only [List.length_append]; have : sElif.length = 5 := rfl; have : sThen.length = 6 := rfl; omega
  have z1 := txt_size a s hs
  have z2 := txt_size c t ht
  have ET := Lib.hid et
  clear et n3
  refine (ifelif_ZZ _ _ _ pe p _ (Below.refl _ _) NN).mono ?_
  rintro e w3 ⟨rfl, l3⟩
  go_wp2_with fail
  refine (zzText a s _ a0 a1 hs).mono ?_
  rintro e w9 ⟨rfl, rfl⟩
  go_wp2_with fail
  refine (zzText c t _ c0 c1 ht).mono ?_
  rintro e w9 ⟨rfl, rfl⟩
  go_wp2_with fail
  go_ret
  refine ⟨ret_bool ?_, l1.trans ((l2.mono l1.size).trans (((below_fresh w2 _).mono (Nat.le_trans l1.size l2.size)).trans (l3.mono ?_)))⟩
  · rw [ET.out]
    simp only [toList_app, toList_txt, ByteArray.toList_mk, ByteArray.toList_eq p, beq_iff_eq, List.append_assoc]
    rfl
  · have := l1.size; have := l2.size; simp; omega

theorem law5 (p : ByteArray) (a : Int) (s : ByteArray) (c : Int) (t : ByteArray) (w : World) (a0 : 0 ≤ a) (a1 : a < 256) (c0 : 0 ≤ c) (c1 : c < 256) (mp : p.size ≤ maxLen) (ms : s.size ≤ maxLen) (mt : t.size ≤ maxLen) :
    Calls Tryd.prog 5 #[.string p, .int .u8 a, .string s, .int .u8 c, .string t] w fun e w' => e = .returned (.bool true) ∧ Below w.heap.size w w' := by
  unfold maxLen at *
  by_cases h : p.size + s.size + t.size ≤ 1048576
  rotate_left
  · exact law5_long p a s c t w (by omega) (by omega) (by omega) h
  by_cases hp : p.size ≤ 65536
  rotate_left
  · exact law5_short0 p a s c t w h  (by omega)
  by_cases hs : s.size ≤ 65536
  rotate_left
  · exact law5_short1 p a s c t w h hp (by omega)
  by_cases ht : t.size ≤ 65536
  rotate_left
  · exact law5_short2 p a s c t w h hp hs (by omega)
  cases b0 : badB a s
  rotate_left
  · exact law5_bad0 p a s c t w a0 a1 c0 c1 h hp hs ht  b0
  cases b1 : badB c t
  rotate_left
  · exact law5_bad1 p a s c t w a0 a1 c0 c1 h hp hs ht b0 b1
  · exact law5_main p a s c t w a0 a1 c0 c1 h hp hs ht b0 b1 
end Go.Proofs.YtejbdgkcoajpfaaDoor
