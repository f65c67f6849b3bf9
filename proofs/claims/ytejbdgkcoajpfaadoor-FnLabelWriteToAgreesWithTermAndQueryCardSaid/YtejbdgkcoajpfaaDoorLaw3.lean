/- The walk of FnLabelWriteToAgreesWithTermAndQuery: it returns true, whatever the arguments. -/
import Derived.Test.YtejbdgkcoajpfaaDoorCmp3
import Derived.Test.YtejbdgkcoajpfaaDoorLaw4
set_option linter.unusedVariables false
namespace Go.Proofs.YtejbdgkcoajpfaaDoor
open Go.Shelf Go.RowKit

theorem zzB3_yes (s a : ByteArray) (w : World) (h : s.size + a.size ≤ 1048576) :
    Calls Tryd.prog 14 #[.string s, .string a] w fun e w' => e = .returned (.bool true) ∧ w = w' := by
  go_enter Tryd.func14, Tryd.ntmps14
  go_wp2
  go_ret
  exact ⟨rfl, rfl⟩
theorem zzB3_no (s a : ByteArray) (w : World) (ms : s.size ≤ 9223372036854775807) (ma : a.size ≤ 9223372036854775807) (h : ¬ s.size + a.size ≤ 1048576) :
    Calls Tryd.prog 14 #[.string s, .string a] w fun e w' => e = .returned (.bool false) ∧ w = w' := by
  go_enter Tryd.func14, Tryd.ntmps14
  go_wp2
  all_goals
    go_ret
    exact ⟨rfl, rfl⟩
theorem law3_long (s a : ByteArray) (w : World) (ms : s.size ≤ 9223372036854775807) (ma : a.size ≤ 9223372036854775807) (h : ¬ s.size + a.size ≤ 1048576) :
    Calls Tryd.prog 3 #[.string s, .string a] w fun e w' => e = .returned (.bool true) ∧ Below w.heap.size w w' := by
  go_enter Tryd.func3, Tryd.ntmps3
  go_wp2_with fail
  refine (zzB3_no s a _ ms ma h).mono ?_
  rintro e w1 ⟨rfl, rfl⟩
  go_wp2_with fail
  go_ret
  exact ⟨rfl, Below.refl _ _⟩
theorem law3_short0 (s a : ByteArray) (w : World) (h : s.size + a.size ≤ 1048576) (hx : 65536 < s.size) :
    Calls Tryd.prog 3 #[.string s, .string a] w fun e w' => e = .returned (.bool true) ∧ Below w.heap.size w w' := by
  go_enter Tryd.func3, Tryd.ntmps3
  go_wp2_with fail
  refine (zzB3_yes s a _ h).mono ?_
  rintro e w1 ⟨rfl, rfl⟩
  go_wp2_with fail
  go_ret
  exact ⟨rfl, Below.refl _ _⟩
theorem law3_short1 (s a : ByteArray) (w : World) (h : s.size + a.size ≤ 1048576) (gs : s.size ≤ 65536) (hx : 65536 < a.size) :
    Calls Tryd.prog 3 #[.string s, .string a] w fun e w' => e = .returned (.bool true) ∧ Below w.heap.size w w' := by
  go_enter Tryd.func3, Tryd.ntmps3
  go_wp2_with fail
  refine (zzB3_yes s a _ h).mono ?_
  rintro e w1 ⟨rfl, rfl⟩
  go_wp2_with fail
  go_ret
  exact ⟨rfl, Below.refl _ _⟩
theorem label_String_of (w0 : World) (a : Addr) (f : List UInt8 → List UInt8) (h : Prints 43 w0 a f) (T : List UInt8) (hT : f [] = T) (w : World) (hbw : Below w0.heap.size w0 w) (hlen : T.length ≤ 1099511627776) :
    Calls Tryd.prog 17 #[.pointer (some a)] w fun e w' => e = .returned (.string ⟨T.toArray⟩) ∧ Below w.heap.size w w' := by
  subst hT; exact label_String w0 a f h w hbw hlen
theorem term_String_of (w0 : World) (a : Addr) (f : List UInt8 → List UInt8) (h : Prints 45 w0 a f) (T : List UInt8) (hT : f [] = T) (w : World) (hbw : Below w0.heap.size w0 w) (hlen : T.length ≤ 1099511627776) :
    Calls Tryd.prog 18 #[.pointer (some a)] w fun e w' => e = .returned (.string ⟨T.toArray⟩) ∧ Below w.heap.size w w' := by
  subst hT; exact term_String w0 a f h w hbw hlen
theorem query_String_of (w0 : World) (a : Addr) (f : List UInt8 → List UInt8) (h : Prints 46 w0 a f) (T : List UInt8) (hT : f [] = T) (w : World) (hbw : Below w0.heap.size w0 w) (hlen : T.length ≤ 1099511627776) :
    Calls Tryd.prog 19 #[.pointer (some a)] w fun e w' => e = .returned (.string ⟨T.toArray⟩) ∧ Below w.heap.size w w' := by
  subst hT; exact query_String w0 a f h w hbw hlen
theorem label_ZZ_nil (w0 : World) (a : Addr) (f : List UInt8 → List UInt8) (h : Prints 43 w0 a f) (T : List UInt8) (hT : f [] = T) (w : World) (hbw : Below w0.heap.size w0 w) (hlen : T.length ≤ 1099511627776) :
    Calls Tryd.prog 16 #[.pointer (some a), .string ⟨#[]⟩] w fun e w' => e = .returned (.string ⟨T.toArray⟩) ∧ Below w.heap.size w w' := by
  subst hT; exact label_ZZ w0 a f h ⟨#[]⟩ w hbw (by simpa using hlen)

theorem calls_name {P : Program} {f : FuncId} {args : Array Value} {w : World} {Q : Ending → World → Prop} (h : ∀ W, W = w → Calls P f args W Q) : Calls P f args w Q := h w rfl
set_option maxRecDepth 100000 in
set_option maxHeartbeats 1000000 in
theorem law3_main (s a : ByteArray) (w : World) (h : s.size + a.size ≤ 1048576) (gs : s.size ≤ 65536) (ga : a.size ≤ 65536) :
    Calls Tryd.prog 3 #[.string s, .string a] w fun e w' => e = .returned (.bool true) ∧ Below w.heap.size w w' := by
  go_enter Tryd.func3, Tryd.ntmps3
  go_wp2_with fail
  refine (zzB3_yes s a _ h).mono ?_
  rintro e w1 ⟨rfl, rfl⟩
  go_wp2_with fail
  refine (zzNum a _).mono ?_
  rintro e w1 ⟨q1, rfl, P1, l1⟩
  go_wp2_with fail
  refine calls_name fun W hW => ?_
  have hB : Below w1.heap.size w1 W := by
    rw [hW]; exact ((below_fresh w1 _).alloc (by first | (simp; done) | (simp; omega)) _).alloc (by first | (simp; done) | (simp; omega)) _
  have hz : w1.heap.size + 3 ≤ W.heap.size := by rw [hW]; simp
  have PL := label_writeTo W w1.heap.size s ⟨q1, 0, none⟩ _ (by omega) (by rw [hW]; simp [go_sem]) (by rw [hW]; simp [go_sem]) (P1.later hB)
  have PT := term_label W (w1.heap.size + 1) ⟨w1.heap.size, 0, none⟩ _ (by omega) (by rw [hW]; simp [go_sem]) (by rw [hW]; simp [go_sem]) (by rw [hW]; simp [go_sem]) PL
  have PQ := query_term W (w1.heap.size + 2) ⟨w1.heap.size + 1, 0, none⟩ _ (by omega) (by rw [hW]; simp [go_sem]) (by rw [hW]; simp [go_sem]) (by rw [hW]; simp [go_sem]) (by rw [hW]; simp [go_sem]) PT
  have n1 := Lib.size_eq s
  have n2 := Lib.size_eq a
  have N : (fLabel s.data.toList (fun _ => a.data.toList) []).length ≤ 1048600 := by
    unfold fLabel
    have l1 : sLabel.length = 6 := rfl
    have l2 : sBar.length = 3 := rfl
    simp only [List.length_append]
    omega
  have ET := Lib.hid (show fLabel s.data.toList (fun _ => a.data.toList) [] = sLabel ++ s.data.toList ++ sBar ++ a.data.toList from rfl)
  generalize hF : fLabel s.data.toList (fun _ => a.data.toList) = F at *
  generalize hT : F [] = T at *
  have HT := Lib.hid hT
  clear hF hT n1 n2 hW P1
  refine (label_ZZ_nil _ _ _ PL T HT.out _ (Below.refl _ _) (by omega)).mono ?_
  rintro e w3 ⟨rfl, l3⟩
  go_wp2_with fail
  refine (label_String_of _ _ _ PL T HT.out _ l3 (by omega)).mono ?_
  rintro e w4 ⟨rfl, l4⟩
  have b4 := l3.trans (l4.mono l3.size)
  go_wp2_with fail
  refine (term_String_of _ _ _ PT T HT.out _ b4 (by omega)).mono ?_
  rintro e w5 ⟨rfl, l5⟩
  have b5 := b4.trans (l5.mono b4.size)
  go_wp2_with fail
  refine (query_String_of _ _ _ PQ T HT.out _ b5 (by omega)).mono ?_
  rintro e w6 ⟨rfl, l6⟩
  have b6 := b5.trans (l6.mono b5.size)
  go_wp2_with fail
  go_ret
  have bw := l1.trans (hB.mono l1.size)
  refine ⟨ret_bool ?_, bw.trans (b6.mono bw.size)⟩
  rw [ET.out]
  simp only [ByteArray.toList_eq, ByteArray.data_append, Array.toList_append, beq_iff_eq, List.append_assoc]
  rfl

theorem law3 (s a : ByteArray) (w : World) (Ms : s.size ≤ maxLen) (Ma : a.size ≤ maxLen) :
    Calls Tryd.prog 3 #[.string s, .string a] w fun e w' => e = .returned (.bool true) ∧ Below w.heap.size w w' := by
  unfold maxLen at *
  by_cases h : s.size + a.size ≤ 1048576
  rotate_left
  · exact law3_long s a w (by omega) (by omega) h
  by_cases gs : s.size ≤ 65536
  rotate_left
  · exact law3_short0 s a w h (by omega)
  by_cases ga : a.size ≤ 65536
  rotate_left
  · exact law3_short1 s a w h gs (by omega)
  exact law3_main s a w h gs ga
end Go.Proofs.YtejbdgkcoajpfaaDoor
