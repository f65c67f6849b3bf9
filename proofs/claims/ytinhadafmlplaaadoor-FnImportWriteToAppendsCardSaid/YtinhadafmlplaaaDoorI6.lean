/- The walk of FnImportWriteToAppends: it returns true, whatever the arguments. Condition: the two tables of unicode/utf8 stand. -/
import Derived.Test.YtinhadafmlplaaaDoorI4
import Derived.WalkSpells
set_option linter.unusedVariables false
namespace Go.Proofs.YtinhadafmlplaaaDoor
open Go.Shelf Go.RowKit


set_option maxRecDepth 100000 in
theorem intact0 (c : Int) (w : World) (h0 : 0 ≤ c) (h1 : c < 256) (hk : (c % 3 == 0) = true) : Calls Tryd.prog 17 #[.pointer none, .int .u8 c] w fun e w' => e = .returned (.bool true) ∧ Below w.heap.size w w' := by
  go_enter Tryd.func17, Tryd.ntmps17
  go_wp2
  go_ret
  exact ⟨rfl, Below.refl _ _⟩
set_option maxRecDepth 100000 in
theorem intact1 (c : Int) (a : Nat) (w : World) (h0 : 0 ≤ c) (h1 : c < 256) (hk0 : (c % 3 == 0) = false) (hk : (c % 3 == 1) = true) (q1 : w.cell? ⟨a, 0, none⟩ = some (.slice none 0 0)) : Calls Tryd.prog 17 #[.pointer (some ⟨a, 0, none⟩), .int .u8 c] w fun e w' => e = .returned (.bool true) ∧ Below w.heap.size w w' := by
  go_enter Tryd.func17, Tryd.ntmps17
  go_wp2
  go_ret
  exact ⟨rfl, Below.refl _ _⟩
set_option maxRecDepth 100000 in
theorem intact2 (c : Int) (a g v t : Nat) (w : World) (h0 : 0 ≤ c) (h1 : c < 256) (hk0 : (c % 3 == 0) = false) (hk : (c % 3 == 1) = false) (q1 : w.cell? ⟨a, 0, none⟩ = some (.slice (some ⟨g, 0, none⟩) 1 1)) (q2 : w.cell? ⟨g, 0, none⟩ = some (.pointer (some ⟨v, 0, none⟩)))
    (q3 : w.cell? ⟨v, 0, none⟩ = some (.string ⟨#[107]⟩)) (q4 : w.cell? ⟨v, 1, none⟩ = some (.string ⟨#[]⟩)) (q5 : w.cell? ⟨v, 2, none⟩ = some (.pointer (some ⟨t, 0, none⟩))) (q9 : w.cell? ⟨t, 3, none⟩ = some (.string ⟨#[]⟩)) (q10 : w.cell? ⟨t, 4, none⟩ = some (.bool true)) :
    Calls Tryd.prog 17 #[.pointer (some ⟨a, 0, none⟩), .int .u8 c] w fun e w' => e = .returned (.bool true) ∧ Below w.heap.size w w' := by
  go_enter Tryd.func17, Tryd.ntmps17
  go_wp2
  go_ret
  exact ⟨rfl, Below.refl _ _⟩
theorem intact_any (c : Int) (m : Option Addr) (w : World) (h0 : 0 ≤ c) (h1 : c < 256) (hm : MetaCells (c % 3).toNat w m) : Calls Tryd.prog 17 #[.pointer m, .int .u8 c] w fun e w' => e = .returned (.bool true) ∧ Below w.heap.size w w' := by
  unfold MetaCells at hm
  by_cases e0 : c % 3 = 0
  · rw [if_pos (by rw [e0]; rfl)] at hm
    subst hm
    exact intact0 c w h0 h1 (by simp [e0])
  rw [if_neg (by omega)] at hm
  by_cases e1 : c % 3 = 1
  · rw [if_pos (by rw [e1]; rfl)] at hm
    obtain ⟨a, rfl, _, q1⟩ := hm
    exact intact1 c a w h0 h1 (by simp [e1]) (by simp [e1]) q1
  · rw [if_neg (by omega)] at hm
    obtain ⟨a, g, v, t, rfl, _, _, _, _, q1, q2, q3, q4, q5, _, _, _, q9, q10⟩ := hm
    exact intact2 c a g v t w h0 h1 (by simp [e0]) (by simp [e1]) q1 q2 q3 q4 q5 q9 q10
theorem Tryd.infoCO : (Tryd.prog.info? 53).isSome = true := by kernel_rfl
theorem Tryd.undCO : Tryd.prog.underlying 24 = some (.pointer 53) := by kernel_rfl
theorem neq_none (w : World) : (binOp .neq 24 (.pointer none) (.pointer none)).run Tryd.prog w = .ok (.bool false) w := by kernel_rfl
@[go_sem] theorem neq_meta (m : Option Addr) (w : World) : (binOp .neq 24 (.pointer m) (.pointer m)).run Tryd.prog w = .ok (.bool false) w := by
  obtain ⟨j, hj⟩ := Option.isSome_iff_exists.1 Tryd.infoCO
  cases m with
  | none => exact neq_none w
  | some a => exact Lib.run_neq_ptr_same w a Tryd.undCO hj
theorem zz_imp (w0 : World) (a : Addr) (TI : List UInt8) (h : Prints 20 w0 a (fun _ => TI)) (B b : Nat) (l : List UInt8) (w : World) (hB : w0.heap.size ≤ B) (hbw : Below w0.heap.size w0 w) (hbb : BB B b l w) (hlen : l.length + TI.length ≤ 1099511627776) :
    Calls Tryd.prog 15 #[.pointer (some a), .pointer (some ⟨b, 0, none⟩)] w fun e w' => e = .returned (.tuple #[]) ∧ BB B b (l ++ TI) w' ∧ Below B w w' := by
  go_enter Tryd.func15, Tryd.ntmps15
  go_wp2_with fail
  refine (h B b l _ hB hbw hbb hlen).mono ?_
  rintro e w1 ⟨rfl, h1, b1⟩
  go_wp2_with fail
  go_end0
  exact ⟨rfl, h1, b1⟩
theorem bb_String_of (B b : Nat) (l : List UInt8) (S : ByteArray) (hS : S.data.toList = l) (w : World) (h : BB B b l w) :
    Calls Tryd.prog 16 #[.pointer (some ⟨b, 0, none⟩)] w fun e w' => e = .returned (.string S) ∧ BB B b l w' ∧ Below B w w' := by
  have e : S = ⟨l.toArray⟩ := ByteArray.ext (Array.ext' (by rw [hS]))
  rw [e]; exact bb_String B b l w h

theorem izB5_yes (px : ByteArray) (p : ByteArray) (al : ByteArray) (ic : ByteArray) (c : Int) (w : World) (h : px.size + p.size + al.size + ic.size ≤ 1048576) :
    Calls Tryd.prog 13 #[.string px, .string p, .string al, .string ic, .int .u8 c] w fun e w' => e = .returned (.bool true) ∧ w = w' := by
  go_enter Tryd.func13, Tryd.ntmps13
  go_wp2
  go_ret
  exact ⟨rfl, rfl⟩
theorem izB5_no (px : ByteArray) (p : ByteArray) (al : ByteArray) (ic : ByteArray) (c : Int) (w : World) (mpx : px.size ≤ 9223372036854775807) (mp : p.size ≤ 9223372036854775807) (mal : al.size ≤ 9223372036854775807) (mic : ic.size ≤ 9223372036854775807) (h : ¬ px.size + p.size + al.size + ic.size ≤ 1048576) :
    Calls Tryd.prog 13 #[.string px, .string p, .string al, .string ic, .int .u8 c] w fun e w' => e = .returned (.bool false) ∧ w = w' := by
  go_enter Tryd.func13, Tryd.ntmps13
  go_wp2
  all_goals
    go_ret
    exact ⟨rfl, rfl⟩
set_option maxRecDepth 100000 in
theorem ilaw5_long (px : ByteArray) (p : ByteArray) (al : ByteArray) (ic : ByteArray) (c : Int) (w : World) (mpx : px.size ≤ 9223372036854775807) (mp : p.size ≤ 9223372036854775807) (mal : al.size ≤ 9223372036854775807) (mic : ic.size ≤ 9223372036854775807) (h : ¬ px.size + p.size + al.size + ic.size ≤ 1048576) :
    Calls Tryd.prog 5 #[.string px, .string p, .string al, .string ic, .int .u8 c] w fun e w' => e = .returned (.bool true) ∧ Below w.heap.size w w' := by
  go_enter Tryd.func5, Tryd.ntmps5
  go_wp2_with fail
  refine (izB5_no px p al ic c _ mpx mp mal mic h).mono ?_
  rintro e w1 ⟨rfl, rfl⟩
  go_wp2_with fail
  go_ret
  exact ⟨rfl, Below.refl _ _⟩

set_option maxRecDepth 100000 in
set_option maxHeartbeats 2000000 in
theorem ilaw5_main (px : ByteArray) (p : ByteArray) (al : ByteArray) (ic : ByteArray) (c : Int) (w : World) (hT : Lib.Utf8Tabs 0 1 w) (cl : 0 ≤ c) (ch : c < 256) (h : px.size + p.size + al.size + ic.size ≤ 1048576) :
    Calls Tryd.prog 5 #[.string px, .string p, .string al, .string ic, .int .u8 c] w fun e w' => e = .returned (.bool true) ∧ Below w.heap.size w w' := by
  go_enter Tryd.func5, Tryd.ntmps5
  go_wp2_with fail
  refine (izB5_yes px p al ic c _ h).mono ?_
  rintro e w1 ⟨rfl, rfl⟩
  go_wp2_with fail
  refine (build_any p al ic c _ cl ch).mono ?_
  rintro e w1 ⟨a, m, rfl, ha, c0, c1, c2, c3, hm, b1⟩
  have hT1 : Lib.Utf8Tabs 0 1 w1 := tabs_kept hT b1 (tabs_two hT)
  have PI := import_any w1 a (c % 3).toNat p al ic m ha hT1 (by omega) (by omega) c0 c1 c2 c3 hm
  have LI := impL_le p al ic (c % 3).toNat
  have HM := Lib.hid hm
  have HC0 := Lib.hid c0
  have HC1 := Lib.hid c1
  have HC2 := Lib.hid c2
  have HC3 := Lib.hid c3
  clear c0 c1 c2 c3 hm hT hT1
  generalize (⟨(metaL (c % 3).toNat).toArray⟩ : ByteArray) = MT at *
  generalize hTI : impL p al ic (c % 3).toNat = TI at *
  clear hTI
  have ST := size_of TI
  have ST2 : (⟨TI.toArray⟩ : ByteArray).size ≤ 12582912 := by rw [ST]; omega
  have LT : TI.length ≤ 12582912 := by omega
  clear ST
  have NP := Lib.size_eq px
  have LP : px.data.toList.length ≤ 1048576 := by omega
  clear NP
  go_wp2_with fail
  refine (import_String _ _ _ PI TI rfl _ (Below.refl _ _) (by omega)).mono ?_
  rintro e w2 ⟨rfl, y2⟩
  have z2 := y2.size
  have PB := bb_fresh w2
  have bf := below_fresh w2 (.cells #[.pointer none, .slice none 0 0] 38)
  go_wp2_with fail
  refine (bb_WriteString w2.heap.size w2.heap.size [] px _ PB (by rw [List.length_nil]; omega)).mono ?_
  rintro e w3 ⟨rfl, h3, b3⟩
  rw [List.nil_append] at h3
  have B3 : Below w2.heap.size w2 w3 := bf.trans b3
  have D3 : Below w1.heap.size w1 w3 := y2.trans (B3.mono z2)
  clear PB bf b3
  go_wp2_with fail
  refine (zz_imp w1 _ TI PI w2.heap.size w2.heap.size _ w3 z2 D3 h3 (by omega)).mono ?_
  rintro e w4 ⟨rfl, h4, b4⟩
  have D4 := D3.trans (b4.mono z2)
  clear h3 B3
  go_wp2_with fail
  refine (bb_String_of w2.heap.size w2.heap.size _ (px ++ ⟨TI.toArray⟩) (by simp) _ h4).mono ?_
  rintro e w5 ⟨rfl, h5, b5⟩
  have D5 := D4.trans (b5.mono z2)
  clear h4
  go_wp2_with fail
  refine (zz_imp w1 _ TI PI w2.heap.size w2.heap.size _ w5 z2 D5 h5 (by simp only [List.length_append]; omega)).mono ?_
  rintro e w6 ⟨rfl, h6, b6⟩
  have D6 := D5.trans (b6.mono z2)
  clear h5
  go_wp2_with fail
  refine (bb_String_of w2.heap.size w2.heap.size _ (px ++ ⟨TI.toArray⟩ ++ ⟨TI.toArray⟩) (by simp) _ h6).mono ?_
  rintro e w7 ⟨rfl, h7, b7⟩
  have D7 := D6.trans (b7.mono z2)
  have g0 := (D7.cell (p := ⟨a, 0, none⟩) ha).trans HC0.out
  have g1 := (D7.cell (p := ⟨a, 1, none⟩) ha).trans HC1.out
  have g2 := (D7.cell (p := ⟨a, 2, none⟩) ha).trans HC2.out
  have g3 := (D7.cell (p := ⟨a, 3, none⟩) ha).trans HC3.out
  have HM7 := Lib.hid (intact_any c m w7 cl ch (HM.out.below D7))
  clear h6 h7 HC0 HC1 HC2 HC3 HM D3 D4 D5 D6
  go_wp2_with fail
  refine HM7.out.mono ?_
  rintro e w8 ⟨rfl, b8⟩
  go_wp2_with fail
  go_ret
  have E1 := b1.trans (D7.mono b1.size)
  exact ⟨rfl, E1.trans (b8.mono E1.size)⟩

theorem ilaw5 (px : ByteArray) (p : ByteArray) (al : ByteArray) (ic : ByteArray) (c : Int) (w : World) (hT : Lib.Utf8Tabs 0 1 w) (cl : 0 ≤ c) (ch : c < 256) (Mpx : px.size ≤ maxLen) (Mp : p.size ≤ maxLen) (Mal : al.size ≤ maxLen) (Mic : ic.size ≤ maxLen) :
    Calls Tryd.prog 5 #[.string px, .string p, .string al, .string ic, .int .u8 c] w fun e w' => e = .returned (.bool true) ∧ Below w.heap.size w w' := by
  unfold maxLen at *
  by_cases h : px.size + p.size + al.size + ic.size ≤ 1048576
  rotate_left
  · exact ilaw5_long px p al ic c w (by omega) (by omega) (by omega) (by omega) h
  exact ilaw5_main px p al ic c w hT cl ch h
end Go.Proofs.YtinhadafmlplaaaDoor
