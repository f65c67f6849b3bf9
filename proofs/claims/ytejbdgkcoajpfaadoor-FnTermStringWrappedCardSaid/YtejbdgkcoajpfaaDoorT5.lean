/- The walk of FnTermStringLeafModel: it returns true, whatever the arguments. -/
import Derived.Test.YtejbdgkcoajpfaaDoorT4
set_option linter.unusedVariables false
namespace Go.Proofs.YtejbdgkcoajpfaaDoor
open Go.Shelf Go.RowKit

theorem keep16 {w : World} {t : Nat} (h16 : w.cell? ⟨t, 16, none⟩ = some (.slice none 0 0)) (v : Value) {p : Addr} {u : Value} (h : w.cell? p = some u) (hu : u ≠ .slice none 0 0) : (w.setCell ⟨t, 16, none⟩ v).cell? p = some u := by
  rw [World.cell?_setCell_other _ _ _ _ (fun e => ?_)]
  · exact h
  · subst e
    rw [h16] at h
    injection h with h
    exact hu h.symm
theorem SufAt.set {w : World} {c b t : Nat} (h : SufAt w c b) (h16 : w.cell? ⟨t, 16, none⟩ = some (.slice none 0 0)) (v : Value) : SufAt (w.setCell ⟨t, 16, none⟩ v) c b := by
  obtain ⟨ha, h⟩ := h
  refine ⟨by simpa using ha, ?_⟩
  by_cases e0 : c % 3 = 0
  · rw [if_pos e0] at h ⊢
    exact ⟨keep16 h16 v h.1 (by simp), keep16 h16 v h.2 (by simp)⟩
  · rw [if_neg e0] at h ⊢
    by_cases e1 : c % 3 = 1
    · rw [if_pos e1] at h ⊢
      exact ⟨keep16 h16 v h.1 (by simp), keep16 h16 v h.2.1 (by simp), keep16 h16 v h.2.2 (by simp)⟩
    · rw [if_neg e1] at h ⊢
      obtain ⟨x, hx, h1, h2⟩ := h
      exact ⟨x, by simpa using hx, keep16 h16 v h1 (by simp), keep16 h16 v h2 (by simp)⟩
theorem SufIn.set {w : World} {a : Option Addr} {n t : Nat} {f : Nat → Nat} (h : SufIn w a n f) (h16 : w.cell? ⟨t, 16, none⟩ = some (.slice none 0 0)) (v : Value) : SufIn (w.setCell ⟨t, 16, none⟩ v) a n f := by
  rcases h with h | ⟨x, rfl, hx⟩
  · exact Or.inl h
  · refine Or.inr ⟨x, rfl, fun j hj => ?_⟩
    obtain ⟨b, h1, h2⟩ := hx j hj
    exact ⟨b, keep16 h16 v h1 (by simp), h2.set h16 v⟩

set_option maxRecDepth 100000 in
theorem tlaw12_long (c : Int) (s : ByteArray) (a : Option Addr) (n cp : Nat) (w : World) (ms : s.size ≤ 9223372036854775807) (mn : n ≤ 9223372036854775807) (h : ¬ s.size + n ≤ 1048576) :
    Calls Tryd.prog 12 #[.int .u8 c, .string s, .slice a n cp] w fun e w' => e = .returned (.bool true) ∧ Below w.heap.size w w' := by
  go_enter Tryd.func12, Tryd.ntmps12
  go_wp2_with fail
  refine (zzB12_no c s a n cp _ ms mn h).mono ?_
  rintro e w1 ⟨rfl, rfl⟩
  go_wp2_with fail
  go_ret
  exact ⟨rfl, Below.refl _ _⟩
set_option maxRecDepth 100000 in
theorem tlaw12_s (c : Int) (s : ByteArray) (a : Option Addr) (n cp : Nat) (w : World) (h : s.size + n ≤ 1048576) (hx : 65536 < s.size) :
    Calls Tryd.prog 12 #[.int .u8 c, .string s, .slice a n cp] w fun e w' => e = .returned (.bool true) ∧ Below w.heap.size w w' := by
  go_enter Tryd.func12, Tryd.ntmps12
  go_wp2_with fail
  refine (zzB12_yes c s a n cp _ h).mono ?_
  rintro e w1 ⟨rfl, rfl⟩
  go_wp2_with fail
  go_ret
  exact ⟨rfl, Below.refl _ _⟩
set_option maxRecDepth 100000 in
theorem tlaw12_n (c : Int) (s : ByteArray) (a : Option Addr) (n cp : Nat) (w : World) (h : s.size + n ≤ 1048576) (hs : s.size ≤ 65536) (hx : 65536 < n) :
    Calls Tryd.prog 12 #[.int .u8 c, .string s, .slice a n cp] w fun e w' => e = .returned (.bool true) ∧ Below w.heap.size w w' := by
  go_enter Tryd.func12, Tryd.ntmps12
  go_wp2_with fail
  refine (zzB12_yes c s a n cp _ h).mono ?_
  rintro e w1 ⟨rfl, rfl⟩
  go_wp2_with fail
  go_ret
  exact ⟨rfl, Below.refl _ _⟩
set_option maxRecDepth 100000 in
theorem tlaw12_main (c : Int) (s : ByteArray) (a : Option Addr) (n cp : Nat) (f : Nat → Nat) (w : World) (h0 : 0 ≤ c) (h1 : c < 256) (hs : s.size ≤ 65536) (hn : n ≤ 65536) (hf : ∀ j, f j < 256) (h : BytIn w a n cp f) :
    Calls Tryd.prog 12 #[.int .u8 c, .string s, .slice a n cp] w fun e w' => e = .returned (.bool true) ∧ Below w.heap.size w w' := by
  have HB0 := Lib.hid h
  clear h
  go_enter Tryd.func12, Tryd.ntmps12
  go_wp2_with fail
  refine (zzB12_yes c s a n cp _ (by omega)).mono ?_
  rintro e w1 ⟨rfl, rfl⟩
  go_wp2_with fail
  refine (copy_any a n cp f _ (by omega) HB0.out).mono ?_
  rintro e w1 ⟨⟨a', c', rfl, hB⟩, b1⟩
  have HB := Lib.hid hB
  clear hB
  go_wp2_with fail
  refine (mkleaf c s _ hs h0 h1).mono ?_
  rintro e w2 ⟨t, rfl, ht, hL, h16, f16, b2⟩
  have HL := Lib.hid hL
  have LB := leafB_le (c % 8).toNat s
  clear hL
  generalize (c % 8).toNat = k at *
  go_wp2_with fail
  refine (suffixes_any a' n c' f (leafB k s) _ hn (by omega) hf (HB.out.below b2)).mono ?_
  rintro e w3 ⟨⟨al, cl, rfl, hS⟩, b3⟩
  have t2 : t < w2.heap.size := HL.out.1
  have g16 : w3.cell? ⟨t, 16, none⟩ = some (.slice none 0 0) := (b3.cell (p := ⟨t, 16, none⟩) t2).trans h16
  have k16 : w3.frozen? ⟨t, 16, none⟩ = false := (b3.frozen (p := ⟨t, 16, none⟩) t2).trans f16
  have L3 := (HL.out.below b3).set (.slice al n cl)
  have S3 := hS.set g16 (.slice al n cl)
  have C3 : (w3.setCell ⟨t, 16, none⟩ (.slice al n cl)).cell? ⟨t, 16, none⟩ = some (.slice al n cl) := World.cell?_setCell_same _ _ _ g16
  have PR := leaf_prints _ k t s al n cl f hn L3 C3 S3
  have SL := sfxN_le f (leafB k s).data.toList n
  have BL := Lib.size_eq (leafB k s)
  have TS := term_String _ ⟨t, 0, none⟩ _ PR _ (Below.refl _ _) (by simp only [List.nil_append, List.length_append]; omega)
  rw [List.nil_append] at TS
  have HTS := Lib.hid TS
  have E3 := Lib.hid (((b1.trans (b2.mono b1.size)).trans (b3.mono (Nat.le_trans b1.size b2.size))).setCell (p := ⟨t, 16, none⟩) (Nat.le_trans b1.size ht) (.slice al n cl))
  clear TS PR L3 S3 C3 hS SL BL LB HL HB HB0
  generalize (⟨((leafB k s).data.toList ++ sfxN f (leafB k s).data.toList n).toArray⟩ : ByteArray) = S at *
  go_wp2_with fail
  refine HTS.out.mono ?_
  rintro e w5 ⟨rfl, y5⟩
  go_wp2_with fail
  go_ret
  exact ⟨rfl, E3.out.trans (y5.mono E3.out.size)⟩
theorem tlaw12 (c : Int) (s : ByteArray) (a : Option Addr) (n cp : Nat) (f : Nat → Nat) (w : World) (h0 : 0 ≤ c) (h1 : c < 256) (ms : s.size ≤ maxLen) (mn : n ≤ maxLen) (hf : ∀ j, f j < 256) (h : BytIn w a n cp f) :
    Calls Tryd.prog 12 #[.int .u8 c, .string s, .slice a n cp] w fun e w' => e = .returned (.bool true) ∧ Below w.heap.size w w' := by
  unfold maxLen at *
  by_cases e0 : s.size + n ≤ 1048576
  · by_cases e1 : s.size ≤ 65536
    · by_cases e2 : n ≤ 65536
      · exact tlaw12_main c s a n cp f w h0 h1 e1 e2 hf h
      · exact tlaw12_n c s a n cp w e0 e1 (by omega)
    · exact tlaw12_s c s a n cp w e0 (by omega)
  · exact tlaw12_long c s a n cp w (by omega) (by omega) e0
end Go.Proofs.YtejbdgkcoajpfaaDoor
