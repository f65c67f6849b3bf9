/- The walk of FnIfElifStringModel: it returns true, whatever the kinds (bytes) and the names. -/
import Derived.Test.YtejbdgkcoajpfaaDoorZz
set_option linter.unusedVariables false
namespace Go.Proofs.YtejbdgkcoajpfaaDoor
open Go.Shelf Go.RowKit

theorem gap_elif (x : List UInt8) : gap (x ++ sElif) = [] := by simp [gap, gapB, sElif]
theorem gap_then (x : List UInt8) : gap (x ++ sThen) = [] := by simp [gap, gapB, sThen]
theorem smallF_of (k : Int) (s : ByteArray) (l : List UInt8) (h : gap l = []) : smallF k s l = smallT k s := by
  unfold smallF smallT; rw [h]; rfl
theorem smallT_len (k : Int) (s : ByteArray) : (smallT k s).length ≤ s.size + 1 := by
  have := Lib.size_eq s
  unfold smallT
  by_cases e0 : k % 4 = 0
  · rw [if_pos e0]; omega
  by_cases e1 : k % 4 = 1
  · rw [if_neg e0, if_pos e1, List.length_cons]; omega
  by_cases e2 : k % 4 = 2
  · rw [if_neg e0, if_neg e1, if_pos e2]; omega
  · rw [if_neg e0, if_neg e1, if_neg e2, List.length_cons, List.length_nil]; omega
theorem txt_size (k : Int) (s : ByteArray) (h : s.size ≤ 65536) : (txt k s).size ≤ 65537 := by
  have := smallT_len k s
  have e : (txt k s).size = (smallT k s).length := by rw [Lib.size_eq]; rfl
  omega
theorem elif_text (k1 k2 : Int) (s1 s2 : ByteArray) (l : List UInt8) : fElif (smallF k1 s1) (smallF k2 s2) l = sElif ++ smallT k1 s1 ++ sThen ++ smallT k2 s2 := by
  unfold fElif
  rw [smallF_of k1 s1 _ (gap_elif l), smallF_of k2 s2 _ (gap_then _)]
theorem ret_bool {a b : Bool} (h : a = b) : Ending.returned (.bool a) = .returned (.bool b) := by rw [h]
theorem toList_app (a b : ByteArray) : (a ++ b).toList = a.toList ++ b.toList := by
  simp only [ByteArray.toList_eq, ByteArray.data_append, Array.toList_append]
theorem toList_txt (k : Int) (s : ByteArray) : (txt k s).toList = smallT k s := by
  unfold txt; rw [ByteArray.toList_mk]

theorem zzBytes4_yes (a c : Int) (s t : ByteArray) (w : World) (h : s.size + t.size ≤ 1048576) :
    Calls Tryd.prog 20 #[.int .u8 a, .string s, .int .u8 c, .string t] w fun e w' => e = .returned (.bool true) ∧ w = w' := by
  go_enter Tryd.func20, Tryd.ntmps20
  go_wp2
  go_ret
  exact ⟨rfl, rfl⟩
theorem zzBytes4_no (a c : Int) (s t : ByteArray) (w : World) (hs : s.size ≤ 9223372036854775807) (ht : t.size ≤ 9223372036854775807) (h : ¬ s.size + t.size ≤ 1048576) :
    Calls Tryd.prog 20 #[.int .u8 a, .string s, .int .u8 c, .string t] w fun e w' => e = .returned (.bool false) ∧ w = w' := by
  go_enter Tryd.func20, Tryd.ntmps20
  go_wp2
  all_goals
    go_ret
    exact ⟨rfl, rfl⟩

set_option maxRecDepth 100000 in
set_option maxHeartbeats 1000000 in
theorem law4_main (a c : Int) (s t : ByteArray) (w : World) (a0 : 0 ≤ a) (a1 : a < 256) (c0 : 0 ≤ c) (c1 : c < 256) (h : s.size + t.size ≤ 1048576) (hs : s.size ≤ 65536) (ht : t.size ≤ 65536) (b1 : badB a s = false) (b2 : badB c t = false) :
    Calls Tryd.prog 4 #[.int .u8 a, .string s, .int .u8 c, .string t] w fun e w' => e = .returned (.bool true) ∧ Below w.heap.size w w' := by
  have hb1 : a % 4 = 1 → s.toList.isEmpty = false := fun e => by simpa [badB, e] using b1
  have hb2 : c % 4 = 1 → t.toList.isEmpty = false := fun e => by simpa [badB, e] using b2
  have HB1 := Lib.hid hb1
  have HB2 := Lib.hid hb2
  clear hb1 hb2
  go_enter Tryd.func4, Tryd.ntmps4
  go_wp2_with fail
  refine (zzBytes4_yes a c s t _ h).mono ?_
  rintro e w1 ⟨rfl, rfl⟩
  go_wp2_with fail
  refine (zzBad a s _ a0 a1).mono ?_
  rintro e w1 ⟨rfl, rfl⟩
  go_wp2_with fail
  refine (zzBad c t _ c0 c1).mono ?_
  rintro e w1 ⟨rfl, rfl⟩
  go_wp2_with fail
  refine (zzQuery a s _ a0 a1 HB1.out).mono ?_
  rintro e w1 ⟨q1, rfl, p1, l1⟩
  go_wp2_with fail
  refine (zzQuery c t _ c0 c1 HB2.out).mono ?_
  rintro e w2 ⟨q2, rfl, p2, l2⟩
  go_wp2_with fail
  have pe := ifelif_writeTo (w2.alloc (.cells #[.pointer (some ⟨q1, 0, none⟩), .pointer (some ⟨q2, 0, none⟩)] 57)) w2.heap.size ⟨q1, 0, none⟩ ⟨q2, 0, none⟩ _ _ (by simp) (by simp [go_sem]) (by simp [go_sem]) ((p1.later l2).later (below_fresh w2 _)) (p2.later (below_fresh w2 _))
  have et := elif_text a c s t []
  have n1 := smallT_len a s
  have n2 := smallT_len c t
  have N : (fElif (smallF a s) (smallF c t) []).length ≤ 1099511627776 := by
    rw [et]; simp only [List.length_append]; have : sElif.length = 5 := rfl; have : sThen.length = 6 := rfl; omega
  have z1 := txt_size a s hs
  have z2 := txt_size c t ht
  have ET := Lib.hid et
  clear et
  refine (ifelif_String _ _ _ pe _ (Below.refl _ _) N).mono ?_
  rintro e w3 ⟨rfl, l3⟩
  go_wp2_with fail
  refine (zzText a s _ a0 a1 hs).mono ?_
  rintro e w4 ⟨rfl, rfl⟩
  go_wp2_with fail
  refine (zzText c t _ c0 c1 ht).mono ?_
  rintro e w4 ⟨rfl, rfl⟩
  go_wp2_with fail
  go_ret
  refine ⟨ret_bool ?_, l1.trans ((l2.mono l1.size).trans (((below_fresh w2 _).mono (Nat.le_trans l1.size l2.size)).trans (l3.mono ?_)))⟩
  · rw [ET.out]
    simp only [toList_app, toList_txt, ByteArray.toList_mk, beq_iff_eq]
    rfl
  · have := l1.size; have := l2.size; simp; omega

set_option maxRecDepth 100000 in
theorem law4_short (a c : Int) (s t : ByteArray) (w : World) (h : s.size + t.size ≤ 1048576) (hs : ¬ (s.size ≤ 65536 ∧ t.size ≤ 65536)) :
    Calls Tryd.prog 4 #[.int .u8 a, .string s, .int .u8 c, .string t] w fun e w' => e = .returned (.bool true) ∧ Below w.heap.size w w' := by
  go_enter Tryd.func4, Tryd.ntmps4
  go_wp2_with fail
  refine (zzBytes4_yes a c s t _ h).mono ?_
  rintro e w1 ⟨rfl, rfl⟩
  by_cases h1 : s.size ≤ 65536
  · have h2 : ¬ t.size ≤ 65536 := fun h2 => hs ⟨h1, h2⟩
    clear hs
    go_wp2_with fail
    go_ret
    exact ⟨rfl, Below.refl _ _⟩
  · clear hs
    go_wp2_with fail
    go_ret
    exact ⟨rfl, Below.refl _ _⟩

set_option maxRecDepth 100000 in
theorem law4_long (a c : Int) (s t : ByteArray) (w : World) (hs : s.size ≤ 9223372036854775807) (ht : t.size ≤ 9223372036854775807) (h : ¬ s.size + t.size ≤ 1048576) :
    Calls Tryd.prog 4 #[.int .u8 a, .string s, .int .u8 c, .string t] w fun e w' => e = .returned (.bool true) ∧ Below w.heap.size w w' := by
  go_enter Tryd.func4, Tryd.ntmps4
  go_wp2_with fail
  refine (zzBytes4_no a c s t _ hs ht h).mono ?_
  rintro e w1 ⟨rfl, rfl⟩
  go_wp2_with fail
  go_ret
  exact ⟨rfl, Below.refl _ _⟩

set_option maxRecDepth 100000 in
theorem law4_bad (a c : Int) (s t : ByteArray) (w : World) (a0 : 0 ≤ a) (a1 : a < 256) (c0 : 0 ≤ c) (c1 : c < 256) (h : s.size + t.size ≤ 1048576) (hs : s.size ≤ 65536) (ht : t.size ≤ 65536) (b : badB a s = true ∨ (badB a s = false ∧ badB c t = true)) :
    Calls Tryd.prog 4 #[.int .u8 a, .string s, .int .u8 c, .string t] w fun e w' => e = .returned (.bool true) ∧ Below w.heap.size w w' := by
  rcases b with b1 | ⟨b1, b2⟩
  · go_enter Tryd.func4, Tryd.ntmps4
    go_wp2_with fail
    refine (zzBytes4_yes a c s t _ h).mono ?_
    rintro e w1 ⟨rfl, rfl⟩
    go_wp2_with fail
    refine (zzBad a s _ a0 a1).mono ?_
    rintro e w1 ⟨rfl, rfl⟩
    go_wp2_with fail
    go_ret
    exact ⟨rfl, Below.refl _ _⟩
  · go_enter Tryd.func4, Tryd.ntmps4
    go_wp2_with fail
    refine (zzBytes4_yes a c s t _ h).mono ?_
    rintro e w1 ⟨rfl, rfl⟩
    go_wp2_with fail
    refine (zzBad a s _ a0 a1).mono ?_
    rintro e w1 ⟨rfl, rfl⟩
    go_wp2_with fail
    refine (zzBad c t _ c0 c1).mono ?_
    rintro e w1 ⟨rfl, rfl⟩
    go_wp2_with fail
    go_ret
    exact ⟨rfl, Below.refl _ _⟩

theorem law4 (a c : Int) (s t : ByteArray) (w : World) (a0 : 0 ≤ a) (a1 : a < 256) (c0 : 0 ≤ c) (c1 : c < 256) (hs : s.size ≤ maxLen) (ht : t.size ≤ maxLen) :
    Calls Tryd.prog 4 #[.int .u8 a, .string s, .int .u8 c, .string t] w fun e w' => e = .returned (.bool true) ∧ Below w.heap.size w w' := by
  unfold maxLen at hs ht
  by_cases h : s.size + t.size ≤ 1048576
  · by_cases h2 : s.size ≤ 65536 ∧ t.size ≤ 65536
    · cases b1 : badB a s
      · cases b2 : badB c t
        · exact law4_main a c s t w a0 a1 c0 c1 h h2.1 h2.2 b1 b2
        · exact law4_bad a c s t w a0 a1 c0 c1 h h2.1 h2.2 (Or.inr ⟨b1, b2⟩)
      · exact law4_bad a c s t w a0 a1 c0 c1 h h2.1 h2.2 (Or.inl b1)
    · exact law4_short a c s t w h h2
  · exact law4_long a c s t w (by omega) (by omega) h
end Go.Proofs.YtejbdgkcoajpfaaDoor
