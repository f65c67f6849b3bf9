/- The walk of FnTryWriteToAgreesString: it returns true, whatever the arguments. -/
import Derived.Test.YtejbdgkcoajpfaaDoorBinT
set_option linter.unusedVariables false
namespace Go.Proofs.YtejbdgkcoajpfaaDoor
open Go.Shelf Go.RowKit

theorem zzB10_yes (p : ByteArray) (a : Int) (s : ByteArray) (c : Int) (t : ByteArray) (op : Int) (hb : Bool) (d : Int) (u : ByteArray) (w : World) (h : p.size + s.size + t.size + u.size ≤ 1048576) :
    Calls Tryd.prog 35 #[.string p, .int .u8 a, .string s, .int .u8 c, .string t, .int .u8 op, .bool hb, .int .u8 d, .string u] w fun e w' => e = .returned (.bool true) ∧ w = w' := by
  go_enter Tryd.func35, Tryd.ntmps35
  go_wp2
  go_ret
  exact ⟨rfl, rfl⟩
theorem zzB10_no (p : ByteArray) (a : Int) (s : ByteArray) (c : Int) (t : ByteArray) (op : Int) (hb : Bool) (d : Int) (u : ByteArray) (w : World) (mp : p.size ≤ 9223372036854775807) (ms : s.size ≤ 9223372036854775807) (mt : t.size ≤ 9223372036854775807) (mu : u.size ≤ 9223372036854775807) (h : ¬ p.size + s.size + t.size + u.size ≤ 1048576) :
    Calls Tryd.prog 35 #[.string p, .int .u8 a, .string s, .int .u8 c, .string t, .int .u8 op, .bool hb, .int .u8 d, .string u] w fun e w' => e = .returned (.bool false) ∧ w = w' := by
  go_enter Tryd.func35, Tryd.ntmps35
  go_wp2
  all_goals
    go_ret
    exact ⟨rfl, rfl⟩

set_option maxRecDepth 100000 in
theorem law10_long (p : ByteArray) (a : Int) (s : ByteArray) (c : Int) (t : ByteArray) (op : Int) (hb : Bool) (d : Int) (u : ByteArray) (w : World) (mp : p.size ≤ 9223372036854775807) (ms : s.size ≤ 9223372036854775807) (mt : t.size ≤ 9223372036854775807) (mu : u.size ≤ 9223372036854775807) (h : ¬ p.size + s.size + t.size + u.size ≤ 1048576) :
    Calls Tryd.prog 10 #[.string p, .int .u8 a, .string s, .int .u8 c, .string t, .int .u8 op, .bool hb, .int .u8 d, .string u] w fun e w' => e = .returned (.bool true) ∧ Below w.heap.size w w' := by
  go_enter Tryd.func10, Tryd.ntmps10
  go_wp2_with fail
  refine (zzB10_no p a s c t op hb d u _ mp ms mt mu h).mono ?_
  rintro e w1 ⟨rfl, rfl⟩
  go_wp2_with fail
  go_ret
  exact ⟨rfl, Below.refl _ _⟩

set_option maxRecDepth 100000 in
theorem law10_short0 (p : ByteArray) (a : Int) (s : ByteArray) (c : Int) (t : ByteArray) (op : Int) (hb : Bool) (d : Int) (u : ByteArray) (w : World) (h : p.size + s.size + t.size + u.size ≤ 1048576)  (hx : 65536 < p.size) :
    Calls Tryd.prog 10 #[.string p, .int .u8 a, .string s, .int .u8 c, .string t, .int .u8 op, .bool hb, .int .u8 d, .string u] w fun e w' => e = .returned (.bool true) ∧ Below w.heap.size w w' := by
  go_enter Tryd.func10, Tryd.ntmps10
  go_wp2_with fail
  refine (zzB10_yes p a s c t op hb d u _ h).mono ?_
  rintro e w1 ⟨rfl, rfl⟩
  go_wp2_with fail
  go_ret
  exact ⟨rfl, Below.refl _ _⟩

set_option maxRecDepth 100000 in
theorem law10_short1 (p : ByteArray) (a : Int) (s : ByteArray) (c : Int) (t : ByteArray) (op : Int) (hb : Bool) (d : Int) (u : ByteArray) (w : World) (h : p.size + s.size + t.size + u.size ≤ 1048576) (gp : p.size ≤ 65536) (hx : 65536 < s.size) :
    Calls Tryd.prog 10 #[.string p, .int .u8 a, .string s, .int .u8 c, .string t, .int .u8 op, .bool hb, .int .u8 d, .string u] w fun e w' => e = .returned (.bool true) ∧ Below w.heap.size w w' := by
  go_enter Tryd.func10, Tryd.ntmps10
  go_wp2_with fail
  refine (zzB10_yes p a s c t op hb d u _ h).mono ?_
  rintro e w1 ⟨rfl, rfl⟩
  go_wp2_with fail
  go_ret
  exact ⟨rfl, Below.refl _ _⟩

set_option maxRecDepth 100000 in
theorem law10_short2 (p : ByteArray) (a : Int) (s : ByteArray) (c : Int) (t : ByteArray) (op : Int) (hb : Bool) (d : Int) (u : ByteArray) (w : World) (h : p.size + s.size + t.size + u.size ≤ 1048576) (gp : p.size ≤ 65536) (gs : s.size ≤ 65536) (hx : 65536 < t.size) :
    Calls Tryd.prog 10 #[.string p, .int .u8 a, .string s, .int .u8 c, .string t, .int .u8 op, .bool hb, .int .u8 d, .string u] w fun e w' => e = .returned (.bool true) ∧ Below w.heap.size w w' := by
  go_enter Tryd.func10, Tryd.ntmps10
  go_wp2_with fail
  refine (zzB10_yes p a s c t op hb d u _ h).mono ?_
  rintro e w1 ⟨rfl, rfl⟩
  go_wp2_with fail
  go_ret
  exact ⟨rfl, Below.refl _ _⟩

set_option maxRecDepth 100000 in
theorem law10_short3 (p : ByteArray) (a : Int) (s : ByteArray) (c : Int) (t : ByteArray) (op : Int) (hb : Bool) (d : Int) (u : ByteArray) (w : World) (h : p.size + s.size + t.size + u.size ≤ 1048576) (gp : p.size ≤ 65536) (gs : s.size ≤ 65536) (gt : t.size ≤ 65536) (hx : 65536 < u.size) :
    Calls Tryd.prog 10 #[.string p, .int .u8 a, .string s, .int .u8 c, .string t, .int .u8 op, .bool hb, .int .u8 d, .string u] w fun e w' => e = .returned (.bool true) ∧ Below w.heap.size w w' := by
  go_enter Tryd.func10, Tryd.ntmps10
  go_wp2_with fail
  refine (zzB10_yes p a s c t op hb d u _ h).mono ?_
  rintro e w1 ⟨rfl, rfl⟩
  go_wp2_with fail
  go_ret
  exact ⟨rfl, Below.refl _ _⟩

set_option maxRecDepth 100000 in
theorem law10_bad0 (p : ByteArray) (a : Int) (s : ByteArray) (c : Int) (t : ByteArray) (op : Int) (hb : Bool) (d : Int) (u : ByteArray) (w : World) (al : 0 ≤ a) (ah : a < 256) (cl : 0 ≤ c) (ch : c < 256) (opl : 0 ≤ op) (oph : op < 256) (dl : 0 ≤ d) (dh : d < 256) (h : p.size + s.size + t.size + u.size ≤ 1048576) (gp : p.size ≤ 65536) (gs : s.size ≤ 65536) (gt : t.size ≤ 65536) (gu : u.size ≤ 65536)  (bx : badB a s = true) :
    Calls Tryd.prog 10 #[.string p, .int .u8 a, .string s, .int .u8 c, .string t, .int .u8 op, .bool hb, .int .u8 d, .string u] w fun e w' => e = .returned (.bool true) ∧ Below w.heap.size w w' := by
  go_enter Tryd.func10, Tryd.ntmps10
  go_wp2_with fail
  refine (zzB10_yes p a s c t op hb d u _ h).mono ?_
  rintro e w1 ⟨rfl, rfl⟩
  go_wp2_with fail
  refine (zzBad a s _ al ah).mono ?_
  rintro e w1 ⟨rfl, rfl⟩
  go_wp2_with fail
  go_ret
  exact ⟨rfl, Below.refl _ _⟩

set_option maxRecDepth 100000 in
theorem law10_bad1 (p : ByteArray) (a : Int) (s : ByteArray) (c : Int) (t : ByteArray) (op : Int) (hb : Bool) (d : Int) (u : ByteArray) (w : World) (al : 0 ≤ a) (ah : a < 256) (cl : 0 ≤ c) (ch : c < 256) (opl : 0 ≤ op) (oph : op < 256) (dl : 0 ≤ d) (dh : d < 256) (h : p.size + s.size + t.size + u.size ≤ 1048576) (gp : p.size ≤ 65536) (gs : s.size ≤ 65536) (gt : t.size ≤ 65536) (gu : u.size ≤ 65536) (b0 : badB a s = false) (bx : badB c t = true) :
    Calls Tryd.prog 10 #[.string p, .int .u8 a, .string s, .int .u8 c, .string t, .int .u8 op, .bool hb, .int .u8 d, .string u] w fun e w' => e = .returned (.bool true) ∧ Below w.heap.size w w' := by
  go_enter Tryd.func10, Tryd.ntmps10
  go_wp2_with fail
  refine (zzB10_yes p a s c t op hb d u _ h).mono ?_
  rintro e w1 ⟨rfl, rfl⟩
  go_wp2_with fail
  refine (zzBad a s _ al ah).mono ?_
  rintro e w1 ⟨rfl, rfl⟩
  go_wp2_with fail
  refine (zzBad c t _ cl ch).mono ?_
  rintro e w1 ⟨rfl, rfl⟩
  go_wp2_with fail
  go_ret
  exact ⟨rfl, Below.refl _ _⟩

set_option maxRecDepth 100000 in
theorem law10_bad2 (p : ByteArray) (a : Int) (s : ByteArray) (c : Int) (t : ByteArray) (op : Int) (hb : Bool) (d : Int) (u : ByteArray) (w : World) (al : 0 ≤ a) (ah : a < 256) (cl : 0 ≤ c) (ch : c < 256) (opl : 0 ≤ op) (oph : op < 256) (dl : 0 ≤ d) (dh : d < 256) (h : p.size + s.size + t.size + u.size ≤ 1048576) (gp : p.size ≤ 65536) (gs : s.size ≤ 65536) (gt : t.size ≤ 65536) (gu : u.size ≤ 65536) (b0 : badB a s = false) (b1 : badB c t = false) (bx : badB d u = true) :
    Calls Tryd.prog 10 #[.string p, .int .u8 a, .string s, .int .u8 c, .string t, .int .u8 op, .bool hb, .int .u8 d, .string u] w fun e w' => e = .returned (.bool true) ∧ Below w.heap.size w w' := by
  go_enter Tryd.func10, Tryd.ntmps10
  go_wp2_with fail
  refine (zzB10_yes p a s c t op hb d u _ h).mono ?_
  rintro e w1 ⟨rfl, rfl⟩
  go_wp2_with fail
  refine (zzBad a s _ al ah).mono ?_
  rintro e w1 ⟨rfl, rfl⟩
  go_wp2_with fail
  refine (zzBad c t _ cl ch).mono ?_
  rintro e w1 ⟨rfl, rfl⟩
  go_wp2_with fail
  refine (zzBad d u _ dl dh).mono ?_
  rintro e w1 ⟨rfl, rfl⟩
  go_wp2_with fail
  go_ret
  exact ⟨rfl, Below.refl _ _⟩

set_option maxRecDepth 100000 in
set_option maxHeartbeats 1000000 in
theorem law10_n (p : ByteArray) (a : Int) (s : ByteArray) (c : Int) (t : ByteArray) (op : Int) (d : Int) (u : ByteArray) (w : World) (al : 0 ≤ a) (ah : a < 256) (cl : 0 ≤ c) (ch : c < 256) (opl : 0 ≤ op) (oph : op < 256) (dl : 0 ≤ d) (dh : d < 256) (h : p.size + s.size + t.size + u.size ≤ 1048576) (gp : p.size ≤ 65536) (gs : s.size ≤ 65536) (gt : t.size ≤ 65536) (gu : u.size ≤ 65536) (b0 : badB a s = false) (b1 : badB c t = false) (b2 : badB d u = false) :
    Calls Tryd.prog 10 #[.string p, .int .u8 a, .string s, .int .u8 c, .string t, .int .u8 op, .bool false, .int .u8 d, .string u] w fun e w' => e = .returned (.bool true) ∧ Below w.heap.size w w' := by
  have HB0 := Lib.hid (show a % 4 = 1 → s.toList.isEmpty = false from fun e => by simpa [badB, e] using b0)
  have HB1 := Lib.hid (show c % 4 = 1 → t.toList.isEmpty = false from fun e => by simpa [badB, e] using b1)
  have HB2 := Lib.hid (show d % 4 = 1 → u.toList.isEmpty = false from fun e => by simpa [badB, e] using b2)
  go_enter Tryd.func10, Tryd.ntmps10
  go_wp2_with fail
  refine (zzB10_yes p a s c t op false d u _ h).mono ?_
  rintro e w1 ⟨rfl, rfl⟩
  go_wp2_with fail
  refine (zzBad a s _ al ah).mono ?_
  rintro e w1 ⟨rfl, rfl⟩
  go_wp2_with fail
  refine (zzBad c t _ cl ch).mono ?_
  rintro e w1 ⟨rfl, rfl⟩
  go_wp2_with fail
  refine (zzBad d u _ dl dh).mono ?_
  rintro e w1 ⟨rfl, rfl⟩
  go_wp2_with fail
  refine (zzPipe a c op s t _ al ah cl ch opl oph HB0.out HB1.out).mono ?_
  rintro e w1 ⟨q1, rfl, P1, l1⟩
  go_wp2_with fail
  have pe := try_bare (w1.alloc (.cells #[.pointer (some ⟨q1, 0, none⟩), .pointer none] 63)) w1.heap.size ⟨q1, 0, none⟩ _ (by simp) (by simp [go_sem]) (by simp [go_sem]) (P1.later (below_fresh w1 _))
  have N := tryBin_len a c op s t
  have n3 := Lib.size_eq p
  have NN : p.data.toList.length + (tryBin a c op s t).length ≤ 1099511627776 := by omega
  have N1 : (tryBin a c op s t).length ≤ 1099511627776 := by omega
  have SZ : (⟨(tryBin a c op s t).toArray⟩ : ByteArray).size ≤ 1099511627776 := by rw [Lib.size_eq]; exact N1
  have ET := fun l => try_bin_text a c op s t l
  generalize hT : (tryBin a c op s t) = T at ET N1 NN SZ
  clear hT N n3
  have HE := Lib.hid ET
  clear ET
  refine (try_String_of _ _ _ pe T (HE.out []) _ (Below.refl _ _) N1).mono ?_
  rintro e w3 ⟨rfl, l3⟩
  go_wp2_with fail
  refine (try_ZZ_nil _ _ _ pe T (HE.out []) _ l3 N1).mono ?_
  rintro e w4 ⟨rfl, l4⟩
  have l34 := l3.trans (l4.mono l3.size)
  go_wp2_with fail
  refine (try_ZZ_of _ _ _ pe p T (HE.out _) _ l34 NN).mono ?_
  rintro e w5 ⟨rfl, l5⟩
  go_wp2_with fail
  go_ret
  refine ⟨ret_bool ?_, l1.trans (((below_fresh w1 _).mono l1.size).trans ((l34.trans (l5.mono l34.size)).mono ?_))⟩
  · simp only [toList_app, ByteArray.toList_mk, ByteArray.toList_eq p, beq_iff_eq]
  · have := l1.size; simp; omega

set_option maxRecDepth 100000 in
set_option maxHeartbeats 1000000 in
theorem law10_c (p : ByteArray) (a : Int) (s : ByteArray) (c : Int) (t : ByteArray) (op : Int) (d : Int) (u : ByteArray) (w : World) (al : 0 ≤ a) (ah : a < 256) (cl : 0 ≤ c) (ch : c < 256) (opl : 0 ≤ op) (oph : op < 256) (dl : 0 ≤ d) (dh : d < 256) (h : p.size + s.size + t.size + u.size ≤ 1048576) (gp : p.size ≤ 65536) (gs : s.size ≤ 65536) (gt : t.size ≤ 65536) (gu : u.size ≤ 65536) (b0 : badB a s = false) (b1 : badB c t = false) (b2 : badB d u = false) :
    Calls Tryd.prog 10 #[.string p, .int .u8 a, .string s, .int .u8 c, .string t, .int .u8 op, .bool true, .int .u8 d, .string u] w fun e w' => e = .returned (.bool true) ∧ Below w.heap.size w w' := by
  have HB0 := Lib.hid (show a % 4 = 1 → s.toList.isEmpty = false from fun e => by simpa [badB, e] using b0)
  have HB1 := Lib.hid (show c % 4 = 1 → t.toList.isEmpty = false from fun e => by simpa [badB, e] using b1)
  have HB2 := Lib.hid (show d % 4 = 1 → u.toList.isEmpty = false from fun e => by simpa [badB, e] using b2)
  go_enter Tryd.func10, Tryd.ntmps10
  go_wp2_with fail
  refine (zzB10_yes p a s c t op true d u _ h).mono ?_
  rintro e w1 ⟨rfl, rfl⟩
  go_wp2_with fail
  refine (zzBad a s _ al ah).mono ?_
  rintro e w1 ⟨rfl, rfl⟩
  go_wp2_with fail
  refine (zzBad c t _ cl ch).mono ?_
  rintro e w1 ⟨rfl, rfl⟩
  go_wp2_with fail
  refine (zzBad d u _ dl dh).mono ?_
  rintro e w1 ⟨rfl, rfl⟩
  go_wp2_with fail
  refine (zzPipe a c op s t _ al ah cl ch opl oph HB0.out HB1.out).mono ?_
  rintro e w1 ⟨q1, rfl, P1, l1⟩
  go_wp2_with fail
  refine (zzQueryF d u _ dl dh HB2.out).mono ?_
  rintro e w2 ⟨q2, rfl, P2, l2⟩
  obtain ⟨zz, e0, e1, f1, PE, BE⟩ := try_made w1 w2 q1 q2 _ _ P1 l2 P2
  clear P1 P2 l2
  go_wp2_with fail
  have N := trycBin_len a c op d s t u
  have n3 := Lib.size_eq p
  have NN : p.data.toList.length + (trycBin a c op d s t u).length ≤ 1099511627776 := by omega
  have N1 : (trycBin a c op d s t u).length ≤ 1099511627776 := by omega
  have SZ : (⟨(trycBin a c op d s t u).toArray⟩ : ByteArray).size ≤ 1099511627776 := by rw [Lib.size_eq]; exact N1
  have ET := fun l => tryc_bin_text a c op d s t u l
  generalize hT : (trycBin a c op d s t u) = T at ET N1 NN SZ
  clear hT N n3
  have HE := Lib.hid ET
  clear ET
  refine (try_String_of _ _ _ PE T (HE.out []) _ (Below.refl _ _) N1).mono ?_
  rintro e w3 ⟨rfl, l3⟩
  go_wp2_with fail
  refine (try_ZZ_nil _ _ _ PE T (HE.out []) _ l3 N1).mono ?_
  rintro e w4 ⟨rfl, l4⟩
  have l34 := l3.trans (l4.mono l3.size)
  go_wp2_with fail
  refine (try_ZZ_of _ _ _ PE p T (HE.out _) _ l34 NN).mono ?_
  rintro e w5 ⟨rfl, l5⟩
  go_wp2_with fail
  go_ret
  refine ⟨ret_bool ?_, l1.trans ((BE.mono l1.size).trans ((l34.trans (l5.mono l34.size)).mono ?_))⟩
  · simp only [toList_app, ByteArray.toList_mk, ByteArray.toList_eq p, beq_iff_eq]
  · have := l1.size; have := BE.size; omega

theorem law10 (p : ByteArray) (a : Int) (s : ByteArray) (c : Int) (t : ByteArray) (op : Int) (hb : Bool) (d : Int) (u : ByteArray) (w : World) (al : 0 ≤ a) (ah : a < 256) (cl : 0 ≤ c) (ch : c < 256) (opl : 0 ≤ op) (oph : op < 256) (dl : 0 ≤ d) (dh : d < 256) (Mp : p.size ≤ maxLen) (Ms : s.size ≤ maxLen) (Mt : t.size ≤ maxLen) (Mu : u.size ≤ maxLen) :
    Calls Tryd.prog 10 #[.string p, .int .u8 a, .string s, .int .u8 c, .string t, .int .u8 op, .bool hb, .int .u8 d, .string u] w fun e w' => e = .returned (.bool true) ∧ Below w.heap.size w w' := by
  unfold maxLen at *
  by_cases h : p.size + s.size + t.size + u.size ≤ 1048576
  rotate_left
  · exact law10_long p a s c t op hb d u w (by omega) (by omega) (by omega) (by omega) h
  by_cases gp : p.size ≤ 65536
  rotate_left
  · exact law10_short0 p a s c t op hb d u w h  (by omega)
  by_cases gs : s.size ≤ 65536
  rotate_left
  · exact law10_short1 p a s c t op hb d u w h gp (by omega)
  by_cases gt : t.size ≤ 65536
  rotate_left
  · exact law10_short2 p a s c t op hb d u w h gp gs (by omega)
  by_cases gu : u.size ≤ 65536
  rotate_left
  · exact law10_short3 p a s c t op hb d u w h gp gs gt (by omega)
  cases b0 : badB a s
  rotate_left
  · exact law10_bad0 p a s c t op hb d u w al ah cl ch opl oph dl dh h gp gs gt gu  b0
  cases b1 : badB c t
  rotate_left
  · exact law10_bad1 p a s c t op hb d u w al ah cl ch opl oph dl dh h gp gs gt gu b0 b1
  cases b2 : badB d u
  rotate_left
  · exact law10_bad2 p a s c t op hb d u w al ah cl ch opl oph dl dh h gp gs gt gu b0 b1 b2
  cases hb
  · exact law10_n p a s c t op d u w al ah cl ch opl oph dl dh h gp gs gt gu b0 b1 b2
  · exact law10_c p a s c t op d u w al ah cl ch opl oph dl dh h gp gs gt gu b0 b1 b2
end Go.Proofs.YtejbdgkcoajpfaaDoor
