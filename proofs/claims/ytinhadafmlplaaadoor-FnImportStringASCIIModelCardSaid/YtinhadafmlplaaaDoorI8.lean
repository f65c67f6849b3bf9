/- The walk of FnImportStringASCIIModel: it returns true, whatever the arguments. Condition: the two tables of unicode/utf8 stand. -/
import Derived.Test.YtinhadafmlplaaaDoorI7
set_option linter.unusedVariables false
namespace Go.Proofs.YtinhadafmlplaaaDoor
open Go.Shelf Go.RowKit


theorem izB4_yes (p : ByteArray) (al : ByteArray) (ic : ByteArray) (c : Int) (w : World) (h : p.size + al.size + ic.size ≤ 1048576) :
    Calls Tryd.prog 10 #[.string p, .string al, .string ic, .int .u8 c] w fun e w' => e = .returned (.bool true) ∧ w = w' := by
  go_enter Tryd.func10, Tryd.ntmps10
  go_wp2
  go_ret
  exact ⟨rfl, rfl⟩
theorem izB4_no (p : ByteArray) (al : ByteArray) (ic : ByteArray) (c : Int) (w : World) (mp : p.size ≤ 9223372036854775807) (mal : al.size ≤ 9223372036854775807) (mic : ic.size ≤ 9223372036854775807) (h : ¬ p.size + al.size + ic.size ≤ 1048576) :
    Calls Tryd.prog 10 #[.string p, .string al, .string ic, .int .u8 c] w fun e w' => e = .returned (.bool false) ∧ w = w' := by
  go_enter Tryd.func10, Tryd.ntmps10
  go_wp2
  all_goals
    go_ret
    exact ⟨rfl, rfl⟩
set_option maxRecDepth 100000 in
theorem ilaw4_long (p : ByteArray) (al : ByteArray) (ic : ByteArray) (c : Int) (w : World) (mp : p.size ≤ 9223372036854775807) (mal : al.size ≤ 9223372036854775807) (mic : ic.size ≤ 9223372036854775807) (h : ¬ p.size + al.size + ic.size ≤ 1048576) :
    Calls Tryd.prog 4 #[.string p, .string al, .string ic, .int .u8 c] w fun e w' => e = .returned (.bool true) ∧ Below w.heap.size w w' := by
  go_enter Tryd.func4, Tryd.ntmps4
  go_wp2_with fail
  refine (izB4_no p al ic c _ mp mal mic h).mono ?_
  rintro e w1 ⟨rfl, rfl⟩
  go_wp2_with fail
  go_ret
  exact ⟨rfl, Below.refl _ _⟩

set_option maxRecDepth 100000 in
set_option maxHeartbeats 2000000 in
theorem ilaw4_main (p : ByteArray) (al : ByteArray) (ic : ByteArray) (c : Int) (w : World) (hT : Lib.Utf8Tabs 0 1 w) (cl : 0 ≤ c) (ch : c < 256) (h : p.size + al.size + ic.size ≤ 1048576) :
    Calls Tryd.prog 4 #[.string p, .string al, .string ic, .int .u8 c] w fun e w' => e = .returned (.bool true) ∧ Below w.heap.size w w' := by
  go_enter Tryd.func4, Tryd.ntmps4
  go_wp2_with fail
  refine (izB4_yes p al ic c _ h).mono ?_
  rintro e w1 ⟨rfl, rfl⟩
  go_wp2_with fail
  refine (printable_any p _ (by omega)).mono ?_
  rintro e w1 ⟨⟨r, rfl, hr⟩, rfl⟩
  cases r
  · go_wp2_with fail
    go_ret
    exact ⟨rfl, Below.refl _ _⟩
  have HP := Lib.hid (hr rfl)
  clear hr
  go_wp2_with fail
  refine (printable_any ic _ (by omega)).mono ?_
  rintro e w1 ⟨⟨r, rfl, hr⟩, rfl⟩
  cases r
  · go_wp2_with fail
    go_ret
    exact ⟨rfl, Below.refl _ _⟩
  have HI := Lib.hid (hr rfl)
  clear hr
  go_wp2_with fail
  refine (build_any p al ic c _ cl ch).mono ?_
  rintro e w1 ⟨a, m, rfl, ha, c0, c1, c2, c3, hm, b1⟩
  have hT1 : Lib.Utf8Tabs 0 1 w1 := tabs_kept hT b1 (tabs_two hT)
  have PI := import_any w1 a (c % 3).toNat p al ic m ha hT1 (by omega) (by omega) c0 c1 c2 c3 hm
  have LI := impL_le p al ic (c % 3).toNat
  have LM := metaL_le (c % 3).toNat
  have SM0 := size_of (metaL (c % 3).toNat)
  have SM : (⟨(metaL (c % 3).toNat).toArray⟩ : ByteArray).size ≤ 12 := by rw [SM0]; exact LM
  clear c0 c1 c2 c3 hm hT hT1 SM0
  generalize (c % 3).toNat = k at *
  generalize hTI : impL p al ic k = TI at *
  have HTI := Lib.hid hTI
  clear hTI
  generalize hML : metaL k = ML at *
  have HML := Lib.hid hML
  clear hML
  by_cases hp : p.size = 0
  · have n1 := empty_of hp
    have n2 := eqnil_of hp
    go_wp2_with fail
    refine (quote_any ic _ (by omega) HI.out).mono ?_
    rintro e w2 ⟨rfl, y2⟩
    have Q1 := encQ_le ic
    generalize hTE : encQ ic = TE at *
    have SE := size_of TE
    have HTE := Lib.hid hTE
    clear hTE
    have SE2 : (⟨TE.toArray⟩ : ByteArray).size ≤ 6291460 := by rw [SE]; omega
    clear SE
    go_wp2_with fail
    refine (import_String _ _ _ PI TI rfl _ y2 (by omega)).mono ?_
    rintro e w3 ⟨rfl, y3⟩
    go_wp2_with fail
    go_ret
    refine ⟨ret_bool ?_, b1.trans ((y2.trans (y3.mono y2.size)).mono b1.size)⟩
    rw [← HTI.out, impL, if_pos hp]
    simp only [toList_app, ByteArray.toList_mk, HTE.out, HML.out, beq_iff_eq, List.append_assoc]
    rfl
  · have n1 := nonempty_of hp
    have n2 : (p.toList == []) = false := by cases h : p.toList <;> simp_all
    go_wp2_with fail
    refine (quote_any p _ (by omega) HP.out).mono ?_
    rintro e w2 ⟨rfl, y2⟩
    have Q1 := encQ_le p
    generalize hTE : encQ p = TE at *
    have SE := size_of TE
    have HTE := Lib.hid hTE
    clear hTE
    have SE2 : (⟨TE.toArray⟩ : ByteArray).size ≤ 6291460 := by rw [SE]; omega
    clear SE
    go_wp2_with fail
    refine (import_String _ _ _ PI TI rfl _ y2 (by omega)).mono ?_
    rintro e w3 ⟨rfl, y3⟩
    go_wp2_with fail
    go_ret
    refine ⟨ret_bool ?_, b1.trans ((y2.trans (y3.mono y2.size)).mono b1.size)⟩
    rw [← HTI.out, impL, if_neg hp]
    simp only [toList_app, ByteArray.toList_mk, HTE.out, HML.out, ByteArray.toList_eq al, beq_iff_eq, List.append_assoc]
    rfl

theorem ilaw4 (p : ByteArray) (al : ByteArray) (ic : ByteArray) (c : Int) (w : World) (hT : Lib.Utf8Tabs 0 1 w) (cl : 0 ≤ c) (ch : c < 256) (Mp : p.size ≤ maxLen) (Mal : al.size ≤ maxLen) (Mic : ic.size ≤ maxLen) :
    Calls Tryd.prog 4 #[.string p, .string al, .string ic, .int .u8 c] w fun e w' => e = .returned (.bool true) ∧ Below w.heap.size w w' := by
  unfold maxLen at *
  by_cases h : p.size + al.size + ic.size ≤ 1048576
  rotate_left
  · exact ilaw4_long p al ic c w (by omega) (by omega) (by omega) h
  exact ilaw4_main p al ic c w hT cl ch h
end Go.Proofs.YtinhadafmlplaaaDoor
