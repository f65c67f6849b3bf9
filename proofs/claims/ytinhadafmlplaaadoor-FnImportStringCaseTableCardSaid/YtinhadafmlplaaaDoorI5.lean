/- The walk of FnImportStringCaseTable: it returns true, whatever the arguments. Condition: the two tables of unicode/utf8 stand. -/
import Derived.Test.YtinhadafmlplaaaDoorI4
set_option linter.unusedVariables false
namespace Go.Proofs.YtinhadafmlplaaaDoor
open Go.Shelf Go.RowKit


theorem izB3_yes (p : ByteArray) (al : ByteArray) (ic : ByteArray) (c : Int) (w : World) (h : p.size + al.size + ic.size ≤ 1048576) :
    Calls Tryd.prog 6 #[.string p, .string al, .string ic, .int .u8 c] w fun e w' => e = .returned (.bool true) ∧ w = w' := by
  go_enter Tryd.func6, Tryd.ntmps6
  go_wp2
  go_ret
  exact ⟨rfl, rfl⟩
theorem izB3_no (p : ByteArray) (al : ByteArray) (ic : ByteArray) (c : Int) (w : World) (mp : p.size ≤ 9223372036854775807) (mal : al.size ≤ 9223372036854775807) (mic : ic.size ≤ 9223372036854775807) (h : ¬ p.size + al.size + ic.size ≤ 1048576) :
    Calls Tryd.prog 6 #[.string p, .string al, .string ic, .int .u8 c] w fun e w' => e = .returned (.bool false) ∧ w = w' := by
  go_enter Tryd.func6, Tryd.ntmps6
  go_wp2
  all_goals
    go_ret
    exact ⟨rfl, rfl⟩
set_option maxRecDepth 100000 in
theorem ilaw3_long (p : ByteArray) (al : ByteArray) (ic : ByteArray) (c : Int) (w : World) (mp : p.size ≤ 9223372036854775807) (mal : al.size ≤ 9223372036854775807) (mic : ic.size ≤ 9223372036854775807) (h : ¬ p.size + al.size + ic.size ≤ 1048576) :
    Calls Tryd.prog 3 #[.string p, .string al, .string ic, .int .u8 c] w fun e w' => e = .returned (.bool true) ∧ Below w.heap.size w w' := by
  go_enter Tryd.func3, Tryd.ntmps3
  go_wp2_with fail
  refine (izB3_no p al ic c _ mp mal mic h).mono ?_
  rintro e w1 ⟨rfl, rfl⟩
  go_wp2_with fail
  go_ret
  exact ⟨rfl, Below.refl _ _⟩

set_option maxRecDepth 100000 in
set_option maxHeartbeats 2000000 in
theorem ilaw3_main (p : ByteArray) (al : ByteArray) (ic : ByteArray) (c : Int) (w : World) (hT : Lib.Utf8Tabs 0 1 w) (cl : 0 ≤ c) (ch : c < 256) (h : p.size + al.size + ic.size ≤ 1048576) :
    Calls Tryd.prog 3 #[.string p, .string al, .string ic, .int .u8 c] w fun e w' => e = .returned (.bool true) ∧ Below w.heap.size w w' := by
  go_enter Tryd.func3, Tryd.ntmps3
  go_wp2_with fail
  refine (izB3_yes p al ic c _ h).mono ?_
  rintro e w1 ⟨rfl, rfl⟩
  go_wp2_with fail
  refine (build_any p al ic c _ cl ch).mono ?_
  rintro e w1 ⟨a, m, rfl, ha, c0, c1, c2, c3, hm, b1⟩
  have hT1 : Lib.Utf8Tabs 0 1 w1 := tabs_kept hT b1 (tabs_two hT)
  have PI := import_any w1 a (c % 3).toNat p al ic m ha hT1 (by omega) (by omega) c0 c1 c2 c3 hm
  have LI := impL_le p al ic (c % 3).toNat
  have LM := metaL_le (c % 3).toNat
  have SM0 := size_of (metaL (c % 3).toNat)
  have SM : (⟨(metaL (c % 3).toNat).toArray⟩ : ByteArray).size ≤ 12 := by rw [SM0]; exact LM
  clear c0 c1 c2 c3 hm hT SM0
  generalize (c % 3).toNat = k at *
  generalize hTI : impL p al ic k = TI at *
  have HTI := Lib.hid hTI
  clear hTI
  generalize hML : metaL k = ML at *
  have HML := Lib.hid hML
  clear hML
  by_cases hp : p.size = 0
  · have n1 := empty_of hp
    have n2 := eqnil_of hp
    go_wp2_with fail
    refine calls_name fun W hW => ?_
    have hB : Below w1.heap.size w1 W := by rw [hW]; exact below_fresh w1 _
    have hz : w1.heap.size + 1 ≤ W.heap.size := by rw [hW]; simp
    have hTW : Lib.Utf8Tabs 0 1 W := tabs_kept hT1 hB (tabs_two hT1)
    have PC := const_str W w1.heap.size ic (by omega) (by omega) hTW (by rw [hW]; simp [go_sem]) (by rw [hW]; simp [go_sem]) (by rw [hW]; simp [go_sem]) (by rw [hW]; simp [go_sem]) (by rw [hW]; simp [go_sem]) (by rw [hW]; simp [go_sem]) (by rw [hW]; simp [go_sem])
    have PI2 := PI.later hB
    have B2 := b1.trans (hB.mono b1.size)
    clear hW PI hB hT1 hTW
    have Q1 := encQ_le ic
    generalize hTE : encQ ic = TE at *
    have SE := size_of TE
    have HTE := Lib.hid hTE
    clear hTE
    have SE2 : (⟨TE.toArray⟩ : ByteArray).size ≤ 6291460 := by rw [SE]; omega
    clear SE
    refine (const_String _ _ _ PC TE rfl _ (Below.refl _ _) (by omega)).mono ?_
    rintro e w2 ⟨rfl, y2⟩
    go_wp2_with fail
    refine (import_String _ _ _ PI2 TI rfl _ y2 (by omega)).mono ?_
    rintro e w3 ⟨rfl, y3⟩
    go_wp2_with fail
    go_ret
    refine ⟨ret_bool ?_, B2.trans ((y2.trans (y3.mono y2.size)).mono B2.size)⟩
    rw [← HTI.out, impL, if_pos hp]
    simp only [toList_app, ByteArray.toList_mk, HTE.out, HML.out, beq_iff_eq, List.append_assoc]
    rfl
  · have n1 := nonempty_of hp
    have n2 : (p.toList == []) = false := by cases h : p.toList <;> simp_all
    go_wp2_with fail
    refine calls_name fun W hW => ?_
    have hB : Below w1.heap.size w1 W := by rw [hW]; exact below_fresh w1 _
    have hz : w1.heap.size + 1 ≤ W.heap.size := by rw [hW]; simp
    have hTW : Lib.Utf8Tabs 0 1 W := tabs_kept hT1 hB (tabs_two hT1)
    have PC := const_str W w1.heap.size p (by omega) (by omega) hTW (by rw [hW]; simp [go_sem]) (by rw [hW]; simp [go_sem]) (by rw [hW]; simp [go_sem]) (by rw [hW]; simp [go_sem]) (by rw [hW]; simp [go_sem]) (by rw [hW]; simp [go_sem]) (by rw [hW]; simp [go_sem])
    have PI2 := PI.later hB
    have B2 := b1.trans (hB.mono b1.size)
    clear hW PI hB hT1 hTW
    have Q1 := encQ_le p
    generalize hTE : encQ p = TE at *
    have SE := size_of TE
    have HTE := Lib.hid hTE
    clear hTE
    have SE2 : (⟨TE.toArray⟩ : ByteArray).size ≤ 6291460 := by rw [SE]; omega
    clear SE
    refine (const_String _ _ _ PC TE rfl _ (Below.refl _ _) (by omega)).mono ?_
    rintro e w2 ⟨rfl, y2⟩
    go_wp2_with fail
    refine (import_String _ _ _ PI2 TI rfl _ y2 (by omega)).mono ?_
    rintro e w3 ⟨rfl, y3⟩
    go_wp2_with fail
    go_ret
    refine ⟨ret_bool ?_, B2.trans ((y2.trans (y3.mono y2.size)).mono B2.size)⟩
    rw [← HTI.out, impL, if_neg hp]
    simp only [toList_app, ByteArray.toList_mk, HTE.out, HML.out, ByteArray.toList_eq al, beq_iff_eq, List.append_assoc]
    rfl

theorem ilaw3 (p : ByteArray) (al : ByteArray) (ic : ByteArray) (c : Int) (w : World) (hT : Lib.Utf8Tabs 0 1 w) (cl : 0 ≤ c) (ch : c < 256) (Mp : p.size ≤ maxLen) (Mal : al.size ≤ maxLen) (Mic : ic.size ≤ maxLen) :
    Calls Tryd.prog 3 #[.string p, .string al, .string ic, .int .u8 c] w fun e w' => e = .returned (.bool true) ∧ Below w.heap.size w w' := by
  unfold maxLen at *
  by_cases h : p.size + al.size + ic.size ≤ 1048576
  rotate_left
  · exact ilaw3_long p al ic c w (by omega) (by omega) (by omega) h
  exact ilaw3_main p al ic c w hT cl ch h
end Go.Proofs.YtinhadafmlplaaaDoor
