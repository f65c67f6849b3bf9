/- The walk of FnTermStringWrapped: it returns true, whatever the arguments. -/
import Derived.Test.YtejbdgkcoajpfaaDoorT6
set_option linter.unusedVariables false
namespace Go.Proofs.YtejbdgkcoajpfaaDoor
open Go.Shelf Go.RowKit

theorem calls_named {P : Program} {f : FuncId} {args : Array Value} {w : World} {Q : Ending → World → Prop} (h : ∀ W, W = w → Calls P f args W Q) : Calls P f args w Q := h w rfl
set_option maxRecDepth 100000 in
theorem tlaw13_long (c : Int) (s : ByteArray) (a : Option Addr) (n cp : Nat) (w : World) (ms : s.size ≤ 9223372036854775807) (mn : n ≤ 9223372036854775807) (h : ¬ s.size + n ≤ 1048576) :
    Calls Tryd.prog 13 #[.int .u8 c, .string s, .slice a n cp] w fun e w' => e = .returned (.bool true) ∧ Below w.heap.size w w' := by
  go_enter Tryd.func13, Tryd.ntmps13
  go_wp2_with fail
  refine (zzB13_no c s a n cp _ ms mn h).mono ?_
  rintro e w1 ⟨rfl, rfl⟩
  go_wp2_with fail
  go_ret
  exact ⟨rfl, Below.refl _ _⟩
set_option maxRecDepth 100000 in
theorem tlaw13_s (c : Int) (s : ByteArray) (a : Option Addr) (n cp : Nat) (w : World) (h : s.size + n ≤ 1048576) (hx : 65536 < s.size) :
    Calls Tryd.prog 13 #[.int .u8 c, .string s, .slice a n cp] w fun e w' => e = .returned (.bool true) ∧ Below w.heap.size w w' := by
  go_enter Tryd.func13, Tryd.ntmps13
  go_wp2_with fail
  refine (zzB13_yes c s a n cp _ h).mono ?_
  rintro e w1 ⟨rfl, rfl⟩
  go_wp2_with fail
  go_ret
  exact ⟨rfl, Below.refl _ _⟩
set_option maxRecDepth 100000 in
theorem tlaw13_n (c : Int) (s : ByteArray) (a : Option Addr) (n cp : Nat) (w : World) (h : s.size + n ≤ 1048576) (hs : s.size ≤ 65536) (hx : 65536 < n) :
    Calls Tryd.prog 13 #[.int .u8 c, .string s, .slice a n cp] w fun e w' => e = .returned (.bool true) ∧ Below w.heap.size w w' := by
  go_enter Tryd.func13, Tryd.ntmps13
  go_wp2_with fail
  refine (zzB13_yes c s a n cp _ h).mono ?_
  rintro e w1 ⟨rfl, rfl⟩
  go_wp2_with fail
  go_ret
  exact ⟨rfl, Below.refl _ _⟩
set_option maxRecDepth 100000 in
theorem tlaw13_main (c : Int) (s : ByteArray) (a : Option Addr) (n cp : Nat) (f : Nat → Nat) (w : World) (h0 : 0 ≤ c) (h1 : c < 256) (hs : s.size ≤ 65536) (hn : n ≤ 65536) (hf : ∀ j, f j < 256) (h : BytIn w a n cp f) :
    Calls Tryd.prog 13 #[.int .u8 c, .string s, .slice a n cp] w fun e w' => e = .returned (.bool true) ∧ Below w.heap.size w w' := by
  have HB0 := Lib.hid h
  clear h
  go_enter Tryd.func13, Tryd.ntmps13
  go_wp2_with fail
  refine (zzB13_yes c s a n cp _ (by omega)).mono ?_
  rintro e w1 ⟨rfl, rfl⟩
  go_wp2_with fail
  refine (copy_any a n cp f _ (by omega) HB0.out).mono ?_
  rintro e w1 ⟨⟨a', c', rfl, hB⟩, b1⟩
  have HB := Lib.hid hB
  clear hB
  go_wp2_with fail
  refine (mkleaf c s _ hs h0 h1).mono ?_
  rintro e w2 ⟨t, rfl, ht, hL, h16, f16, b2⟩
  have HL := Lib.hid hL
  have LB := leafB_le (c % 8).toNat s
  clear hL
  generalize (c % 8).toNat = k at *
  go_wp2_with fail
  refine (suffixes_any a' n c' f (leafB k s) _ hn (by omega) hf (HB.out.below b2)).mono ?_
  rintro e w3 ⟨⟨al, cl, rfl, hS⟩, b3⟩
  have t2 : t < w2.heap.size := HL.out.1
  have g16 : w3.cell? ⟨t, 16, none⟩ = some (.slice none 0 0) := (b3.cell (p := ⟨t, 16, none⟩) t2).trans h16
  have k16 : w3.frozen? ⟨t, 16, none⟩ = false := (b3.frozen (p := ⟨t, 16, none⟩) t2).trans f16
  have L3 := (HL.out.below b3).set (.slice al n cl)
  have S3 := hS.set g16 (.slice al n cl)
  have C3 : (w3.setCell ⟨t, 16, none⟩ (.slice al n cl)).cell? ⟨t, 16, none⟩ = some (.slice al n cl) := World.cell?_setCell_same _ _ _ g16
  have PR := leaf_prints _ k t s al n cl f hn L3 C3 S3
  have SL := sfxN_le f (leafB k s).data.toList n
  have BL := Lib.size_eq (leafB k s)
  have g91 : gap [91] = [] := rfl
  have g40 : gap [40] = [] := rfl
  have g45 : gap [45] = [] := rfl
  have TS := term_String _ ⟨t, 0, none⟩ _ PR _ (Below.refl _ _) (by simp only [List.nil_append, List.length_append]; omega)
  rw [List.nil_append] at TS
  have A1 := sfxN_app f [91] g91 (leafB k s).data.toList n
  have A2 := sfxN_app f [40] g40 (leafB k s).data.toList n
  have A3 := sfxN_app f [45] g45 (leafB k s).data.toList n
  have LS : ((leafB k s).data.toList ++ sfxN f (leafB k s).data.toList n).length ≤ 400000 := by rw [List.length_append]; omega
  have HTS := Lib.hid TS
  have HPR := Lib.hid PR
  have E3 := Lib.hid (((b1.trans (b2.mono b1.size)).trans (b3.mono (Nat.le_trans b1.size b2.size))).setCell (p := ⟨t, 16, none⟩) (Nat.le_trans b1.size ht) (.slice al n cl))
  clear TS PR L3 S3 C3 hS SL BL LB HL HB HB0
  generalize hF : (fun l : List UInt8 => (leafB k s).data.toList ++ sfxN f (l ++ (leafB k s).data.toList) n) = F at *
  have F0 : F [91] = (leafB k s).data.toList ++ sfxN f (leafB k s).data.toList n := by rw [← hF]; simp only [A1]
  have F1 : F [40] = (leafB k s).data.toList ++ sfxN f (leafB k s).data.toList n := by rw [← hF]; simp only [A2]
  have F2 : F [45] = (leafB k s).data.toList ++ sfxN f (leafB k s).data.toList n := by rw [← hF]; simp only [A3]
  have F3 : F [] = (leafB k s).data.toList ++ sfxN f (leafB k s).data.toList n := by rw [← hF]; rfl
  clear A1 A2 A3 hF
  generalize (leafB k s).data.toList ++ sfxN f (leafB k s).data.toList n = TX at *
  have SZ : (⟨TX.toArray⟩ : ByteArray).size ≤ 400000 := by rw [Lib.size_eq]; exact LS
  have HF := Lib.hid (And.intro F0 (And.intro F1 (And.intro F2 F3)))
  clear F0 F1 F2 F3
  go_wp2_with fail
  refine HTS.out.mono ?_
  rintro e w5 ⟨rfl, y5⟩
  have P5 := HPR.out.later y5
  have t5 : t < w5.heap.size := by have := b3.size; have := y5.size; simp at this; omega
  clear HTS HPR g16 k16 h16 f16
  go_wp2_with fail
  refine calls_named fun W hW => ?_
  have hB : Below w5.heap.size w5 W := by rw [hW]; exact ((((((((below_fresh w5 _).alloc (by first | (simp; done) | (simp; omega)) _).alloc (by first | (simp; done) | (simp; omega)) _).alloc (by first | (simp; done) | (simp; omega)) _).alloc (by first | (simp; done) | (simp; omega)) _).alloc (by first | (simp; done) | (simp; omega)) _).alloc (by first | (simp; done) | (simp; omega)) _).alloc (by first | (simp; done) | (simp; omega)) _)
  have PT := P5.later hB
  have Q1 := query_term W w5.heap.size ⟨t, 0, none⟩ F (by rw [hW]; first | (simp; done) | (simp; omega)) (by rw [hW]; simp [go_sem]) (by rw [hW]; simp [go_sem]) (by rw [hW]; simp [go_sem]) (by rw [hW]; simp [go_sem]) PT
  have PA := term_array W (w5.heap.size + 1 + 1) ⟨(w5.heap.size + 1), 0, none⟩ _ (by rw [hW]; first | (simp; done) | (simp; omega)) (by rw [hW]; simp [go_sem]) (by rw [hW]; simp [go_sem]) (by rw [hW]; simp [go_sem]) (array_q W (w5.heap.size + 1) ⟨w5.heap.size, 0, none⟩ _ (by rw [hW]; first | (simp; done) | (simp; omega)) (by rw [hW]; simp [go_sem]) Q1)
  have Q2 := query_term W (w5.heap.size + 1 + 1 + 1) ⟨t, 0, none⟩ F (by rw [hW]; first | (simp; done) | (simp; omega)) (by rw [hW]; simp [go_sem]) (by rw [hW]; simp [go_sem]) (by rw [hW]; simp [go_sem]) (by rw [hW]; simp [go_sem]) PT
  have PP := term_par W (w5.heap.size + 1 + 1 + 1 + 1) ⟨(w5.heap.size + 1 + 1 + 1), 0, none⟩ _ (by rw [hW]; first | (simp; done) | (simp; omega)) (by rw [hW]; simp [go_sem]) (by rw [hW]; simp [go_sem]) (by rw [hW]; simp [go_sem]) Q2
  have PN := term_unary W (w5.heap.size + 1 + 1 + 1 + 1 + 1 + 1) ⟨(w5.heap.size + 1 + 1 + 1 + 1 + 1), 0, none⟩ _ (by rw [hW]; first | (simp; done) | (simp; omega)) (by rw [hW]; simp [go_sem]) (by rw [hW]; simp [go_sem]) (by rw [hW]; simp [go_sem]) (unary_t W (w5.heap.size + 1 + 1 + 1 + 1 + 1) ⟨t, 0, none⟩ F (by rw [hW]; first | (simp; done) | (simp; omega)) (by rw [hW]; simp [go_sem]) (by rw [hW]; simp [go_sem]) PT)
  have Q3 := query_term W (w5.heap.size + 1 + 1 + 1 + 1 + 1 + 1 + 1) ⟨t, 0, none⟩ F (by rw [hW]; first | (simp; done) | (simp; omega)) (by rw [hW]; simp [go_sem]) (by rw [hW]; simp [go_sem]) (by rw [hW]; simp [go_sem]) (by rw [hW]; simp [go_sem]) PT
  have RA : (⟨([91] ++ F ([] ++ [91]) ++ [93]).toArray⟩ : ByteArray) = ⟨#[91]⟩ ++ ⟨TX.toArray⟩ ++ ⟨#[93]⟩ := by rw [List.nil_append, HF.out.1]; exact ByteArray.ext (Array.ext' (by simp))
  have RP : (⟨([40] ++ F ([] ++ [40]) ++ [41]).toArray⟩ : ByteArray) = ⟨#[40]⟩ ++ ⟨TX.toArray⟩ ++ ⟨#[41]⟩ := by rw [List.nil_append, HF.out.2.1]; exact ByteArray.ext (Array.ext' (by simp))
  have RN : (⟨([45] ++ F ([] ++ [45])).toArray⟩ : ByteArray) = ⟨#[45]⟩ ++ ⟨TX.toArray⟩ := by rw [List.nil_append, HF.out.2.2.1]; exact ByteArray.ext (Array.ext' (by simp))
  have SA := fun wz hb => term_String W ⟨(w5.heap.size + 1 + 1), 0, none⟩ _ PA wz hb (by rw [List.nil_append, HF.out.1]; simp only [List.length_append, List.length_cons, List.length_nil]; omega)
  have SP := fun wz hb => term_String W ⟨(w5.heap.size + 1 + 1 + 1 + 1), 0, none⟩ _ PP wz hb (by rw [List.nil_append, HF.out.2.1]; simp only [List.length_append, List.length_cons, List.length_nil]; omega)
  have SN := fun wz hb => term_String W ⟨(w5.heap.size + 1 + 1 + 1 + 1 + 1 + 1), 0, none⟩ _ PN wz hb (by rw [List.nil_append, HF.out.2.2.1]; simp only [List.length_append, List.length_cons, List.length_nil]; omega)
  have SQ := fun wz hb => query_String W ⟨(w5.heap.size + 1 + 1 + 1 + 1 + 1 + 1 + 1), 0, none⟩ _ Q3 wz hb (by rw [HF.out.2.2.2]; omega)
  have ST := fun wz hb => term_String W ⟨t, 0, none⟩ _ PT wz hb (by rw [HF.out.2.2.2]; omega)
  simp only [RA] at SA
  simp only [RP] at SP
  simp only [RN] at SN
  simp only [HF.out.2.2.2] at SQ ST
  have HA := Lib.hid SA
  have HP := Lib.hid SP
  have HN := Lib.hid SN
  have HQ := Lib.hid SQ
  have HT := Lib.hid ST
  have HY := Lib.hid (E3.out.trans ((y5.trans (hB.mono y5.size)).mono E3.out.size))
  clear hW hB PT Q1 PA Q2 PP PN Q3 RA RP RN SA SP SN SQ ST P5 y5 E3 b1 b2 b3 HF LS
  generalize (⟨TX.toArray⟩ : ByteArray) = S at *
  refine (HA.out W (Below.refl _ _)).mono ?_
  rintro e v1 ⟨rfl, z1⟩
  go_wp2_with fail
  refine (HP.out v1 z1).mono ?_
  rintro e v2 ⟨rfl, y2⟩
  have z2 := z1.trans (y2.mono z1.size)
  clear y2
  go_wp2_with fail
  refine (HN.out v2 z2).mono ?_
  rintro e v3 ⟨rfl, y3⟩
  have z3 := z2.trans (y3.mono z2.size)
  clear y3
  go_wp2_with fail
  refine (HQ.out v3 z3).mono ?_
  rintro e v4 ⟨rfl, y4⟩
  have z4 := z3.trans (y4.mono z3.size)
  clear y4
  go_wp2_with fail
  refine (HT.out v4 z4).mono ?_
  rintro e v5 ⟨rfl, y5⟩
  have z5 := z4.trans (y5.mono z4.size)
  go_wp2_with fail
  go_ret
  exact ⟨rfl, HY.out.trans (z5.mono HY.out.size)⟩
theorem tlaw13 (c : Int) (s : ByteArray) (a : Option Addr) (n cp : Nat) (f : Nat → Nat) (w : World) (h0 : 0 ≤ c) (h1 : c < 256) (ms : s.size ≤ maxLen) (mn : n ≤ maxLen) (hf : ∀ j, f j < 256) (h : BytIn w a n cp f) :
    Calls Tryd.prog 13 #[.int .u8 c, .string s, .slice a n cp] w fun e w' => e = .returned (.bool true) ∧ Below w.heap.size w w' := by
  unfold maxLen at *
  by_cases e0 : s.size + n ≤ 1048576
  · by_cases e1 : s.size ≤ 65536
    · by_cases e2 : n ≤ 65536
      · exact tlaw13_main c s a n cp f w h0 h1 e1 e2 hf h
      · exact tlaw13_n c s a n cp w e0 e1 (by omega)
    · exact tlaw13_s c s a n cp w e0 (by omega)
  · exact tlaw13_long c s a n cp w (by omega) (by omega) e0
end Go.Proofs.YtejbdgkcoajpfaaDoor
