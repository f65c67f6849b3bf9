/- The walk of FnIfElifWriteToAgreesString: it returns true, whatever the arguments. -/
import Derived.Test.YtejbdgkcoajpfaaDoorBinT
set_option linter.unusedVariables false
namespace Go.Proofs.YtejbdgkcoajpfaaDoor
open Go.Shelf Go.RowKit

theorem zzB9_yes (p : ByteArray) (a : Int) (s : ByteArray) (c : Int) (t : ByteArray) (op : Int) (d : Int) (u : ByteArray) (w : World) (h : p.size + s.size + t.size + u.size ≤ 1048576) :
    Calls Tryd.prog 33 #[.string p, .int .u8 a, .string s, .int .u8 c, .string t, .int .u8 op, .int .u8 d, .string u] w fun e w' => e = .returned (.bool true) ∧ w = w' := by
  go_enter Tryd.func33, Tryd.ntmps33
  go_wp2
  go_ret
  exact ⟨rfl, rfl⟩
theorem zzB9_no (p : ByteArray) (a : Int) (s : ByteArray) (c : Int) (t : ByteArray) (op : Int) (d : Int) (u : ByteArray) (w : World) (mp : p.size ≤ 9223372036854775807) (ms : s.size ≤ 9223372036854775807) (mt : t.size ≤ 9223372036854775807) (mu : u.size ≤ 9223372036854775807) (h : ¬ p.size + s.size + t.size + u.size ≤ 1048576) :
    Calls Tryd.prog 33 #[.string p, .int .u8 a, .string s, .int .u8 c, .string t, .int .u8 op, .int .u8 d, .string u] w fun e w' => e = .returned (.bool false) ∧ w = w' := by
  go_enter Tryd.func33, Tryd.ntmps33
  go_wp2
  all_goals
    go_ret
    exact ⟨rfl, rfl⟩

set_option maxRecDepth 100000 in
theorem law9_long (p : ByteArray) (a : Int) (s : ByteArray) (c : Int) (t : ByteArray) (op : Int) (d : Int) (u : ByteArray) (w : World) (mp : p.size ≤ 9223372036854775807) (ms : s.size ≤ 9223372036854775807) (mt : t.size ≤ 9223372036854775807) (mu : u.size ≤ 9223372036854775807) (h : ¬ p.size + s.size + t.size + u.size ≤ 1048576) :
    Calls Tryd.prog 9 #[.string p, .int .u8 a, .string s, .int .u8 c, .string t, .int .u8 op, .int .u8 d, .string u] w fun e w' => e = .returned (.bool true) ∧ Below w.heap.size w w' := by
  go_enter Tryd.func9, Tryd.ntmps9
  go_wp2_with fail
  refine (zzB9_no p a s c t op d u _ mp ms mt mu h).mono ?_
  rintro e w1 ⟨rfl, rfl⟩
  go_wp2_with fail
  go_ret
  exact ⟨rfl, Below.refl _ _⟩

set_option maxRecDepth 100000 in
theorem law9_short0 (p : ByteArray) (a : Int) (s : ByteArray) (c : Int) (t : ByteArray) (op : Int) (d : Int) (u : ByteArray) (w : World) (h : p.size + s.size + t.size + u.size ≤ 1048576)  (hx : 65536 < p.size) :
    Calls Tryd.prog 9 #[.string p, .int .u8 a, .string s, .int .u8 c, .string t, .int .u8 op, .int .u8 d, .string u] w fun e w' => e = .returned (.bool true) ∧ Below w.heap.size w w' := by
  go_enter Tryd.func9, Tryd.ntmps9
  go_wp2_with fail
  refine (zzB9_yes p a s c t op d u _ h).mono ?_
  rintro e w1 ⟨rfl, rfl⟩
  go_wp2_with fail
  go_ret
  exact ⟨rfl, Below.refl _ _⟩

set_option maxRecDepth 100000 in
theorem law9_short1 (p : ByteArray) (a : Int) (s : ByteArray) (c : Int) (t : ByteArray) (op : Int) (d : Int) (u : ByteArray) (w : World) (h : p.size + s.size + t.size + u.size ≤ 1048576) (gp : p.size ≤ 65536) (hx : 65536 < s.size) :
    Calls Tryd.prog 9 #[.string p, .int .u8 a, .string s, .int .u8 c, .string t, .int .u8 op, .int .u8 d, .string u] w fun e w' => e = .returned (.bool true) ∧ Below w.heap.size w w' := by
  go_enter Tryd.func9, Tryd.ntmps9
  go_wp2_with fail
  refine (zzB9_yes p a s c t op d u _ h).mono ?_
  rintro e w1 ⟨rfl, rfl⟩
  go_wp2_with fail
  go_ret
  exact ⟨rfl, Below.refl _ _⟩

set_option maxRecDepth 100000 in
theorem law9_short2 (p : ByteArray) (a : Int) (s : ByteArray) (c : Int) (t : ByteArray) (op : Int) (d : Int) (u : ByteArray) (w : World) (h : p.size + s.size + t.size + u.size ≤ 1048576) (gp : p.size ≤ 65536) (gs : s.size ≤ 65536) (hx : 65536 < t.size) :
    Calls Tryd.prog 9 #[.string p, .int .u8 a, .string s, .int .u8 c, .string t, .int .u8 op, .int .u8 d, .string u] w fun e w' => e = .returned (.bool true) ∧ Below w.heap.size w w' := by
  go_enter Tryd.func9, Tryd.ntmps9
  go_wp2_with fail
  refine (zzB9_yes p a s c t op d u _ h).mono ?_
  rintro e w1 ⟨rfl, rfl⟩
  go_wp2_with fail
  go_ret
  exact ⟨rfl, Below.refl _ _⟩

set_option maxRecDepth 100000 in
theorem law9_short3 (p : ByteArray) (a : Int) (s : ByteArray) (c : Int) (t : ByteArray) (op : Int) (d : Int) (u : ByteArray) (w : World) (h : p.size + s.size + t.size + u.size ≤ 1048576) (gp : p.size ≤ 65536) (gs : s.size ≤ 65536) (gt : t.size ≤ 65536) (hx : 65536 < u.size) :
    Calls Tryd.prog 9 #[.string p, .int .u8 a, .string s, .int .u8 c, .string t, .int .u8 op, .int .u8 d, .string u] w fun e w' => e = .returned (.bool true) ∧ Below w.heap.size w w' := by
  go_enter Tryd.func9, Tryd.ntmps9
  go_wp2_with fail
  refine (zzB9_yes p a s c t op d u _ h).mono ?_
  rintro e w1 ⟨rfl, rfl⟩
  go_wp2_with fail
  go_ret
  exact ⟨rfl, Below.refl _ _⟩

set_option maxRecDepth 100000 in
theorem law9_bad0 (p : ByteArray) (a : Int) (s : ByteArray) (c : Int) (t : ByteArray) (op : Int) (d : Int) (u : ByteArray) (w : World) (al : 0 ≤ a) (ah : a < 256) (cl : 0 ≤ c) (ch : c < 256) (opl : 0 ≤ op) (oph : op < 256) (dl : 0 ≤ d) (dh : d < 256) (h : p.size + s.size + t.size + u.size ≤ 1048576) (gp : p.size ≤ 65536) (gs : s.size ≤ 65536) (gt : t.size ≤ 65536) (gu : u.size ≤ 65536)  (bx : badB a s = true) :
    Calls Tryd.prog 9 #[.string p, .int .u8 a, .string s, .int .u8 c, .string t, .int .u8 op, .int .u8 d, .string u] w fun e w' => e = .returned (.bool true) ∧ Below w.heap.size w w' := by
  go_enter Tryd.func9, Tryd.ntmps9
  go_wp2_with fail
  refine (zzB9_yes p a s c t op d u _ h).mono ?_
  rintro e w1 ⟨rfl, rfl⟩
  go_wp2_with fail
  refine (zzBad a s _ al ah).mono ?_
  rintro e w1 ⟨rfl, rfl⟩
  go_wp2_with fail
  go_ret
  exact ⟨rfl, Below.refl _ _⟩

set_option maxRecDepth 100000 in
theorem law9_bad1 (p : ByteArray) (a : Int) (s : ByteArray) (c : Int) (t : ByteArray) (op : Int) (d : Int) (u : ByteArray) (w : World) (al : 0 ≤ a) (ah : a < 256) (cl : 0 ≤ c) (ch : c < 256) (opl : 0 ≤ op) (oph : op < 256) (dl : 0 ≤ d) (dh : d < 256) (h : p.size + s.size + t.size + u.size ≤ 1048576) (gp : p.size ≤ 65536) (gs : s.size ≤ 65536) (gt : t.size ≤ 65536) (gu : u.size ≤ 65536) (b0 : badB a s = false) (bx : badB c t = true) :
    Calls Tryd.prog 9 #[.string p, .int .u8 a, .string s, .int .u8 c, .string t, .int .u8 op, .int .u8 d, .string u] w fun e w' => e = .returned (.bool true) ∧ Below w.heap.size w w' := by
  go_enter Tryd.func9, Tryd.ntmps9
  go_wp2_with fail
  refine (zzB9_yes p a s c t op d u _ h).mono ?_
  rintro e w1 ⟨rfl, rfl⟩
  go_wp2_with fail
  refine (zzBad a s _ al ah).mono ?_
  rintro e w1 ⟨rfl, rfl⟩
  go_wp2_with fail
  refine (zzBad c t _ cl ch).mono ?_
  rintro e w1 ⟨rfl, rfl⟩
  go_wp2_with fail
  go_ret
  exact ⟨rfl, Below.refl _ _⟩

set_option maxRecDepth 100000 in
theorem law9_bad2 (p : ByteArray) (a : Int) (s : ByteArray) (c : Int) (t : ByteArray) (op : Int) (d : Int) (u : ByteArray) (w : World) (al : 0 ≤ a) (ah : a < 256) (cl : 0 ≤ c) (ch : c < 256) (opl : 0 ≤ op) (oph : op < 256) (dl : 0 ≤ d) (dh : d < 256) (h : p.size + s.size + t.size + u.size ≤ 1048576) (gp : p.size ≤ 65536) (gs : s.size ≤ 65536) (gt : t.size ≤ 65536) (gu : u.size ≤ 65536) (b0 : badB a s = false) (b1 : badB c t = false) (bx : badB d u = true) :
    Calls Tryd.prog 9 #[.string p, .int .u8 a, .string s, .int .u8 c, .string t, .int .u8 op, .int .u8 d, .string u] w fun e w' => e = .returned (.bool true) ∧ Below w.heap.size w w' := by
  go_enter Tryd.func9, Tryd.ntmps9
  go_wp2_with fail
  refine (zzB9_yes p a s c t op d u _ h).mono ?_
  rintro e w1 ⟨rfl, rfl⟩
  go_wp2_with fail
  refine (zzBad a s _ al ah).mono ?_
  rintro e w1 ⟨rfl, rfl⟩
  go_wp2_with fail
  refine (zzBad c t _ cl ch).mono ?_
  rintro e w1 ⟨rfl, rfl⟩
  go_wp2_with fail
  refine (zzBad d u _ dl dh).mono ?_
  rintro e w1 ⟨rfl, rfl⟩
  go_wp2_with fail
  go_ret
  exact ⟨rfl, Below.refl _ _⟩

set_option maxRecDepth 100000 in
set_option maxHeartbeats 1000000 in
theorem law9_main (p : ByteArray) (a : Int) (s : ByteArray) (c : Int) (t : ByteArray) (op : Int) (d : Int) (u : ByteArray) (w : World) (al : 0 ≤ a) (ah : a < 256) (cl : 0 ≤ c) (ch : c < 256) (opl : 0 ≤ op) (oph : op < 256) (dl : 0 ≤ d) (dh : d < 256) (h : p.size + s.size + t.size + u.size ≤ 1048576) (gp : p.size ≤ 65536) (gs : s.size ≤ 65536) (gt : t.size ≤ 65536) (gu : u.size ≤ 65536) (b0 : badB a s = false) (b1 : badB c t = false) (b2 : badB d u = false) :
    Calls Tryd.prog 9 #[.string p, .int .u8 a, .string s, .int .u8 c, .string t, .int .u8 op, .int .u8 d, .string u] w fun e w' => e = .returned (.bool true) ∧ Below w.heap.size w w' := by
  have HB0 := Lib.hid (show a % 4 = 1 → s.toList.isEmpty = false from fun e => by simpa [badB, e] using b0)
  have HB1 := Lib.hid (show c % 4 = 1 → t.toList.isEmpty = false from fun e => by simpa [badB, e] using b1)
  have HB2 := Lib.hid (show d % 4 = 1 → u.toList.isEmpty = false from fun e => by simpa [badB, e] using b2)
  go_enter Tryd.func9, Tryd.ntmps9
  go_wp2_with fail
  refine (zzB9_yes p a s c t op d u _ h).mono ?_
  rintro e w1 ⟨rfl, rfl⟩
  go_wp2_with fail
  refine (zzBad a s _ al ah).mono ?_
  rintro e w1 ⟨rfl, rfl⟩
  go_wp2_with fail
  refine (zzBad c t _ cl ch).mono ?_
  rintro e w1 ⟨rfl, rfl⟩
  go_wp2_with fail
  refine (zzBad d u _ dl dh).mono ?_
  rintro e w1 ⟨rfl, rfl⟩
  go_wp2_with fail
  refine (zzPipe a c op s t _ al ah cl ch opl oph HB0.out HB1.out).mono ?_
  rintro e w1 ⟨q1, rfl, P1, l1⟩
  go_wp2_with fail
  refine (zzQuery d u _ dl dh HB2.out).mono ?_
  rintro e w2 ⟨q2, rfl, P2, l2⟩
  go_wp2_with fail
  have pe := ifelif_writeTo (w2.alloc (.cells #[.pointer (some ⟨q1, 0, none⟩), .pointer (some ⟨q2, 0, none⟩)] 57)) w2.heap.size ⟨q1, 0, none⟩ ⟨q2, 0, none⟩ _ _ (by simp) (by simp [go_sem]) (by simp [go_sem]) ((P1.later l2).later (below_fresh w2 _)) (P2.later (below_fresh w2 _))
  have N := elifBin_len a c op d s t u
  have n3 := Lib.size_eq p
  have NN : p.data.toList.length + (elifBin a c op d s t u).length ≤ 1099511627776 := by omega
  have N1 : (elifBin a c op d s t u).length ≤ 1099511627776 := by omega
  have SZ : (⟨(elifBin a c op d s t u).toArray⟩ : ByteArray).size ≤ 1099511627776 := by rw [Lib.size_eq]; exact N1
  have ET := fun l => elif_bin_text a c op d s t u l
  generalize hT : (elifBin a c op d s t u) = T at ET N1 NN SZ
  clear hT N n3 P1 P2
  have HE := Lib.hid ET
  clear ET
  refine (ifelif_String_of _ _ _ pe T (HE.out []) _ (Below.refl _ _) N1).mono ?_
  rintro e w3 ⟨rfl, l3⟩
  go_wp2_with fail
  refine (ifelif_ZZ_nil _ _ _ pe T (HE.out []) _ l3 N1).mono ?_
  rintro e w4 ⟨rfl, l4⟩
  have l34 := l3.trans (l4.mono l3.size)
  go_wp2_with fail
  refine (ifelif_ZZ_of _ _ _ pe p T (HE.out _) _ l34 NN).mono ?_
  rintro e w5 ⟨rfl, l5⟩
  go_wp2_with fail
  go_ret
  refine ⟨ret_bool ?_, l1.trans ((l2.mono l1.size).trans (((below_fresh w2 _).mono (Nat.le_trans l1.size l2.size)).trans ((l34.trans (l5.mono l34.size)).mono ?_)))⟩
  · simp only [toList_app, ByteArray.toList_mk, ByteArray.toList_eq p, beq_iff_eq]
  · have := l1.size; have := l2.size; simp; omega

theorem law9 (p : ByteArray) (a : Int) (s : ByteArray) (c : Int) (t : ByteArray) (op : Int) (d : Int) (u : ByteArray) (w : World) (al : 0 ≤ a) (ah : a < 256) (cl : 0 ≤ c) (ch : c < 256) (opl : 0 ≤ op) (oph : op < 256) (dl : 0 ≤ d) (dh : d < 256) (Mp : p.size ≤ maxLen) (Ms : s.size ≤ maxLen) (Mt : t.size ≤ maxLen) (Mu : u.size ≤ maxLen) :
    Calls Tryd.prog 9 #[.string p, .int .u8 a, .string s, .int .u8 c, .string t, .int .u8 op, .int .u8 d, .string u] w fun e w' => e = .returned (.bool true) ∧ Below w.heap.size w w' := by
  unfold maxLen at *
  by_cases h : p.size + s.size + t.size + u.size ≤ 1048576
  rotate_left
  · exact law9_long p a s c t op d u w (by omega) (by omega) (by omega) (by omega) h
  by_cases gp : p.size ≤ 65536
  rotate_left
  · exact law9_short0 p a s c t op d u w h  (by omega)
  by_cases gs : s.size ≤ 65536
  rotate_left
  · exact law9_short1 p a s c t op d u w h gp (by omega)
  by_cases gt : t.size ≤ 65536
  rotate_left
  · exact law9_short2 p a s c t op d u w h gp gs (by omega)
  by_cases gu : u.size ≤ 65536
  rotate_left
  · exact law9_short3 p a s c t op d u w h gp gs gt (by omega)
  cases b0 : badB a s
  rotate_left
  · exact law9_bad0 p a s c t op d u w al ah cl ch opl oph dl dh h gp gs gt gu  b0
  cases b1 : badB c t
  rotate_left
  · exact law9_bad1 p a s c t op d u w al ah cl ch opl oph dl dh h gp gs gt gu b0 b1
  cases b2 : badB d u
  rotate_left
  · exact law9_bad2 p a s c t op d u w al ah cl ch opl oph dl dh h gp gs gt gu b0 b1 b2
  exact law9_main p a s c t op d u w al ah cl ch opl oph dl dh h gp gs gt gu b0 b1 b2
end Go.Proofs.YtejbdgkcoajpfaaDoor
