/- The walk of FnTryWriteToModel: it returns true, whatever the arguments. -/
import Derived.Test.YtejbdgkcoajpfaaDoorTryT
set_option linter.unusedVariables false
namespace Go.Proofs.YtejbdgkcoajpfaaDoor
open Go.Shelf Go.RowKit

theorem zzB8_yes (p : ByteArray) (a : Int) (s : ByteArray) (hb : Bool) (c : Int) (t : ByteArray) (w : World) (h : p.size + s.size + t.size ≤ 1048576) :
    Calls Tryd.prog 31 #[.string p, .int .u8 a, .string s, .bool hb, .int .u8 c, .string t] w fun e w' => e = .returned (.bool true) ∧ w = w' := by
  go_enter Tryd.func31, Tryd.ntmps31
  go_wp2
  go_ret
  exact ⟨rfl, rfl⟩
theorem zzB8_no (p : ByteArray) (a : Int) (s : ByteArray) (hb : Bool) (c : Int) (t : ByteArray) (w : World) (mp : p.size ≤ 9223372036854775807) (ms : s.size ≤ 9223372036854775807) (mt : t.size ≤ 9223372036854775807) (h : ¬ p.size + s.size + t.size ≤ 1048576) :
    Calls Tryd.prog 31 #[.string p, .int .u8 a, .string s, .bool hb, .int .u8 c, .string t] w fun e w' => e = .returned (.bool false) ∧ w = w' := by
  go_enter Tryd.func31, Tryd.ntmps31
  go_wp2
  all_goals
    go_ret
    exact ⟨rfl, rfl⟩

set_option maxRecDepth 100000 in
theorem law8_long (p : ByteArray) (a : Int) (s : ByteArray) (hb : Bool) (c : Int) (t : ByteArray) (w : World) (mp : p.size ≤ 9223372036854775807) (ms : s.size ≤ 9223372036854775807) (mt : t.size ≤ 9223372036854775807) (h : ¬ p.size + s.size + t.size ≤ 1048576) :
    Calls Tryd.prog 8 #[.string p, .int .u8 a, .string s, .bool hb, .int .u8 c, .string t] w fun e w' => e = .returned (.bool true) ∧ Below w.heap.size w w' := by
  go_enter Tryd.func8, Tryd.ntmps8
  go_wp2_with fail
  refine (zzB8_no p a s hb c t _ mp ms mt h).mono ?_
  rintro e w1 ⟨rfl, rfl⟩
  go_wp2_with fail
  go_ret
  exact ⟨rfl, Below.refl _ _⟩

set_option maxRecDepth 100000 in
theorem law8_short0 (p : ByteArray) (a : Int) (s : ByteArray) (hb : Bool) (c : Int) (t : ByteArray) (w : World) (h : p.size + s.size + t.size ≤ 1048576)  (hx : 65536 < p.size) :
    Calls Tryd.prog 8 #[.string p, .int .u8 a, .string s, .bool hb, .int .u8 c, .string t] w fun e w' => e = .returned (.bool true) ∧ Below w.heap.size w w' := by
  go_enter Tryd.func8, Tryd.ntmps8
  go_wp2_with fail
  refine (zzB8_yes p a s hb c t _ h).mono ?_
  rintro e w1 ⟨rfl, rfl⟩
  go_wp2_with fail
  go_ret
  exact ⟨rfl, Below.refl _ _⟩

set_option maxRecDepth 100000 in
theorem law8_short1 (p : ByteArray) (a : Int) (s : ByteArray) (hb : Bool) (c : Int) (t : ByteArray) (w : World) (h : p.size + s.size + t.size ≤ 1048576) (gp : p.size ≤ 65536) (hx : 65536 < s.size) :
    Calls Tryd.prog 8 #[.string p, .int .u8 a, .string s, .bool hb, .int .u8 c, .string t] w fun e w' => e = .returned (.bool true) ∧ Below w.heap.size w w' := by
  go_enter Tryd.func8, Tryd.ntmps8
  go_wp2_with fail
  refine (zzB8_yes p a s hb c t _ h).mono ?_
  rintro e w1 ⟨rfl, rfl⟩
  go_wp2_with fail
  go_ret
  exact ⟨rfl, Below.refl _ _⟩

set_option maxRecDepth 100000 in
theorem law8_short2 (p : ByteArray) (a : Int) (s : ByteArray) (hb : Bool) (c : Int) (t : ByteArray) (w : World) (h : p.size + s.size + t.size ≤ 1048576) (gp : p.size ≤ 65536) (gs : s.size ≤ 65536) (hx : 65536 < t.size) :
    Calls Tryd.prog 8 #[.string p, .int .u8 a, .string s, .bool hb, .int .u8 c, .string t] w fun e w' => e = .returned (.bool true) ∧ Below w.heap.size w w' := by
  go_enter Tryd.func8, Tryd.ntmps8
  go_wp2_with fail
  refine (zzB8_yes p a s hb c t _ h).mono ?_
  rintro e w1 ⟨rfl, rfl⟩
  go_wp2_with fail
  go_ret
  exact ⟨rfl, Below.refl _ _⟩

set_option maxRecDepth 100000 in
theorem law8_bad0 (p : ByteArray) (a : Int) (s : ByteArray) (hb : Bool) (c : Int) (t : ByteArray) (w : World) (al : 0 ≤ a) (ah : a < 256) (cl : 0 ≤ c) (ch : c < 256) (h : p.size + s.size + t.size ≤ 1048576) (gp : p.size ≤ 65536) (gs : s.size ≤ 65536) (gt : t.size ≤ 65536)  (bx : badB a s = true) :
    Calls Tryd.prog 8 #[.string p, .int .u8 a, .string s, .bool hb, .int .u8 c, .string t] w fun e w' => e = .returned (.bool true) ∧ Below w.heap.size w w' := by
  go_enter Tryd.func8, Tryd.ntmps8
  go_wp2_with fail
  refine (zzB8_yes p a s hb c t _ h).mono ?_
  rintro e w1 ⟨rfl, rfl⟩
  go_wp2_with fail
  refine (zzBad a s _ al ah).mono ?_
  rintro e w1 ⟨rfl, rfl⟩
  go_wp2_with fail
  go_ret
  exact ⟨rfl, Below.refl _ _⟩

set_option maxRecDepth 100000 in
theorem law8_bad1 (p : ByteArray) (a : Int) (s : ByteArray) (hb : Bool) (c : Int) (t : ByteArray) (w : World) (al : 0 ≤ a) (ah : a < 256) (cl : 0 ≤ c) (ch : c < 256) (h : p.size + s.size + t.size ≤ 1048576) (gp : p.size ≤ 65536) (gs : s.size ≤ 65536) (gt : t.size ≤ 65536) (b0 : badB a s = false) (bx : badB c t = true) :
    Calls Tryd.prog 8 #[.string p, .int .u8 a, .string s, .bool hb, .int .u8 c, .string t] w fun e w' => e = .returned (.bool true) ∧ Below w.heap.size w w' := by
  go_enter Tryd.func8, Tryd.ntmps8
  go_wp2_with fail
  refine (zzB8_yes p a s hb c t _ h).mono ?_
  rintro e w1 ⟨rfl, rfl⟩
  go_wp2_with fail
  refine (zzBad a s _ al ah).mono ?_
  rintro e w1 ⟨rfl, rfl⟩
  go_wp2_with fail
  refine (zzBad c t _ cl ch).mono ?_
  rintro e w1 ⟨rfl, rfl⟩
  go_wp2_with fail
  go_ret
  exact ⟨rfl, Below.refl _ _⟩

set_option maxRecDepth 100000 in
set_option maxHeartbeats 1000000 in
theorem law8_n (p : ByteArray) (a : Int) (s : ByteArray) (c : Int) (t : ByteArray) (w : World) (al : 0 ≤ a) (ah : a < 256) (cl : 0 ≤ c) (ch : c < 256) (h : p.size + s.size + t.size ≤ 1048576) (gp : p.size ≤ 65536) (gs : s.size ≤ 65536) (gt : t.size ≤ 65536) (b0 : badB a s = false) (b1 : badB c t = false) :
    Calls Tryd.prog 8 #[.string p, .int .u8 a, .string s, .bool false, .int .u8 c, .string t] w fun e w' => e = .returned (.bool true) ∧ Below w.heap.size w w' := by
  have HB0 := Lib.hid (show a % 4 = 1 → s.toList.isEmpty = false from fun e => by simpa [badB, e] using b0)
  have HB1 := Lib.hid (show c % 4 = 1 → t.toList.isEmpty = false from fun e => by simpa [badB, e] using b1)
  go_enter Tryd.func8, Tryd.ntmps8
  go_wp2_with fail
  refine (zzB8_yes p a s false c t _ h).mono ?_
  rintro e w1 ⟨rfl, rfl⟩
  go_wp2_with fail
  refine (zzBad a s _ al ah).mono ?_
  rintro e w1 ⟨rfl, rfl⟩
  go_wp2_with fail
  refine (zzBad c t _ cl ch).mono ?_
  rintro e w1 ⟨rfl, rfl⟩
  go_wp2_with fail
  refine (zzQuery a s _ al ah HB0.out).mono ?_
  rintro e w1 ⟨q1, rfl, P1, l1⟩
  have z1 := txt_size a s gs
  go_wp2_with fail
  refine (zzText a s _ al ah gs).mono ?_
  rintro e w9 ⟨rfl, rfl⟩
  go_wp2_with fail
  have pe := try_bare (w1.alloc (.cells #[.pointer (some ⟨q1, 0, none⟩), .pointer none] 63)) w1.heap.size ⟨q1, 0, none⟩ _ (by simp) (by simp [go_sem]) (by simp [go_sem]) (P1.later (below_fresh w1 _))
  have et := try_text a s p.data.toList
  have n1 := smallT_len a s
  have n3 := Lib.size_eq p
  have N : p.data.toList.length + (fTry (smallF a s) p.data.toList).length ≤ 1099511627776 := by
    rw [et]; simp only [List.length_append]; have : sTry.length = 4 := rfl; omega
  have ET := Lib.hid et
  clear et n3
  refine (try_ZZ _ _ _ pe p _ (Below.refl _ _) N).mono ?_
  rintro e w3 ⟨rfl, l3⟩
  go_wp2_with fail
  go_ret
  refine ⟨ret_bool ?_, l1.trans (((below_fresh w1 _).mono l1.size).trans (l3.mono ?_))⟩
  · rw [ET.out]
    simp only [toList_app, toList_txt, ByteArray.toList_mk, ByteArray.toList_eq p, beq_iff_eq, List.append_assoc]
    rfl
  · have := l1.size; simp; omega

set_option maxRecDepth 100000 in
set_option maxHeartbeats 1000000 in
theorem law8_c (p : ByteArray) (a : Int) (s : ByteArray) (c : Int) (t : ByteArray) (w : World) (al : 0 ≤ a) (ah : a < 256) (cl : 0 ≤ c) (ch : c < 256) (h : p.size + s.size + t.size ≤ 1048576) (gp : p.size ≤ 65536) (gs : s.size ≤ 65536) (gt : t.size ≤ 65536) (b0 : badB a s = false) (b1 : badB c t = false) :
    Calls Tryd.prog 8 #[.string p, .int .u8 a, .string s, .bool true, .int .u8 c, .string t] w fun e w' => e = .returned (.bool true) ∧ Below w.heap.size w w' := by
  have HB0 := Lib.hid (show a % 4 = 1 → s.toList.isEmpty = false from fun e => by simpa [badB, e] using b0)
  have HB1 := Lib.hid (show c % 4 = 1 → t.toList.isEmpty = false from fun e => by simpa [badB, e] using b1)
  go_enter Tryd.func8, Tryd.ntmps8
  go_wp2_with fail
  refine (zzB8_yes p a s true c t _ h).mono ?_
  rintro e w1 ⟨rfl, rfl⟩
  go_wp2_with fail
  refine (zzBad a s _ al ah).mono ?_
  rintro e w1 ⟨rfl, rfl⟩
  go_wp2_with fail
  refine (zzBad c t _ cl ch).mono ?_
  rintro e w1 ⟨rfl, rfl⟩
  go_wp2_with fail
  refine (zzQuery a s _ al ah HB0.out).mono ?_
  rintro e w1 ⟨q1, rfl, P1, l1⟩
  have z1 := txt_size a s gs
  have z2 := txt_size c t gt
  go_wp2_with fail
  refine (zzText a s _ al ah gs).mono ?_
  rintro e w9 ⟨rfl, rfl⟩
  go_wp2_with fail
  refine (zzQueryF c t _ cl ch HB1.out).mono ?_
  rintro e w2 ⟨q2, rfl, P2, l2⟩
  obtain ⟨zz, e0, e1, f1, PE, BE⟩ := try_made w1 w2 q1 q2 _ _ P1 l2 P2
  clear P1 P2 l2
  go_wp2_with fail
  refine (zzText c t _ cl ch gt).mono ?_
  rintro e w9 ⟨rfl, rfl⟩
  go_wp2_with fail
  have et := tryc_text a c s t p.data.toList
  have n1 := smallT_len a s
  have n2 := smallT_len c t
  have n3 := Lib.size_eq p
  have N : p.data.toList.length + (fTryCatch (smallF a s) (smallF c t) p.data.toList).length ≤ 1099511627776 := by
    rw [et]; simp only [List.length_append]; have : sTry.length = 4 := rfl; have : sCatch.length = 7 := rfl; omega
  have ET := Lib.hid et
  clear et n3
  refine (try_ZZ _ _ _ PE p _ (Below.refl _ _) N).mono ?_
  rintro e w3 ⟨rfl, l3⟩
  go_wp2_with fail
  go_ret
  refine ⟨ret_bool ?_, l1.trans ((BE.mono l1.size).trans (l3.mono ?_))⟩
  · rw [ET.out]
    simp only [toList_app, toList_txt, ByteArray.toList_mk, ByteArray.toList_eq p, beq_iff_eq, List.append_assoc]
    rfl
  · have := l1.size; have := BE.size; omega

theorem law8 (p : ByteArray) (a : Int) (s : ByteArray) (hb : Bool) (c : Int) (t : ByteArray) (w : World) (al : 0 ≤ a) (ah : a < 256) (cl : 0 ≤ c) (ch : c < 256) (Mp : p.size ≤ maxLen) (Ms : s.size ≤ maxLen) (Mt : t.size ≤ maxLen) :
    Calls Tryd.prog 8 #[.string p, .int .u8 a, .string s, .bool hb, .int .u8 c, .string t] w fun e w' => e = .returned (.bool true) ∧ Below w.heap.size w w' := by
  unfold maxLen at *
  by_cases h : p.size + s.size + t.size ≤ 1048576
  rotate_left
  · exact law8_long p a s hb c t w (by omega) (by omega) (by omega) h
  by_cases gp : p.size ≤ 65536
  rotate_left
  · exact law8_short0 p a s hb c t w h  (by omega)
  by_cases gs : s.size ≤ 65536
  rotate_left
  · exact law8_short1 p a s hb c t w h gp (by omega)
  by_cases gt : t.size ≤ 65536
  rotate_left
  · exact law8_short2 p a s hb c t w h gp gs (by omega)
  cases b0 : badB a s
  rotate_left
  · exact law8_bad0 p a s hb c t w al ah cl ch h gp gs gt  b0
  cases b1 : badB c t
  rotate_left
  · exact law8_bad1 p a s hb c t w al ah cl ch h gp gs gt b0 b1
  cases hb
  · exact law8_n p a s c t w al ah cl ch h gp gs gt b0 b1
  · exact law8_c p a s c t w al ah cl ch h gp gs gt b0 b1
end Go.Proofs.YtejbdgkcoajpfaaDoor
