/- zzText_b3, zzBadIndex_b3: what they answer. Condition: the kind is a byte. -/
import Derived.Test.YtejbdgkcoajpfaaDoorSmall
set_option linter.unusedVariables false
namespace Go.Proofs.YtejbdgkcoajpfaaDoor
open Go.Shelf Go.RowKit

/-- zzBadIndex_b3 as a Bool. -/
def badB (k : Int) (s : ByteArray) : Bool := decide (k % 4 = 1) && s.toList.isEmpty

theorem zzBad_no (k : Int) (s : ByteArray) (w : World) (h0 : 0 ≤ k) (h1 : k < 256) (hk : (k % 4 == 1) = false) :
    Calls Tryd.prog 21 #[.int .u8 k, .string s] w fun e w' => e = .returned (.bool false) ∧ w = w' := by
  go_enter Tryd.func21, Tryd.ntmps21
  go_wp2
  go_ret
  exact ⟨rfl, rfl⟩
theorem zzBad_one (k : Int) (s : ByteArray) (w : World) (h0 : 0 ≤ k) (h1 : k < 256) (hk : (k % 4 == 1) = true) :
    Calls Tryd.prog 21 #[.int .u8 k, .string s] w fun e w' => e = .returned (.bool s.toList.isEmpty) ∧ w = w' := by
  go_enter Tryd.func21, Tryd.ntmps21
  go_wp2
  go_ret
  exact ⟨rfl, rfl⟩
theorem zzBad (k : Int) (s : ByteArray) (w : World) (h0 : 0 ≤ k) (h1 : k < 256) :
    Calls Tryd.prog 21 #[.int .u8 k, .string s] w fun e w' => e = .returned (.bool (badB k s)) ∧ w = w' := by
  by_cases h : k % 4 = 1
  · have e : badB k s = s.toList.isEmpty := by simp [badB, h]
    rw [e]; exact zzBad_one k s w h0 h1 (by simp [h])
  · have e : badB k s = false := by simp [badB, h]
    rw [e]; exact zzBad_no k s w h0 h1 (by simp [h])

theorem zzText0 (k : Int) (s : ByteArray) (w : World) (h0 : 0 ≤ k) (h1 : k < 256) (hk : (k % 4 == 0) = true) :
    Calls Tryd.prog 24 #[.int .u8 k, .string s] w fun e w' => e = .returned (.string s) ∧ w = w' := by
  go_enter Tryd.func24, Tryd.ntmps24
  go_wp2
  go_ret
  exact ⟨rfl, rfl⟩
theorem zzText1 (k : Int) (s : ByteArray) (w : World) (h0 : 0 ≤ k) (h1 : k < 256) (hk0 : (k % 4 == 0) = false) (hk : (k % 4 == 1) = true) (hs : s.size ≤ 65536) :
    Calls Tryd.prog 24 #[.int .u8 k, .string s] w fun e w' => e = .returned (.string (⟨#[46]⟩ ++ s)) ∧ w = w' := by
  go_enter Tryd.func24, Tryd.ntmps24
  go_wp2
  go_ret
  exact ⟨rfl, rfl⟩
theorem zzText2 (k : Int) (s : ByteArray) (w : World) (h0 : 0 ≤ k) (h1 : k < 256) (hk0 : (k % 4 == 0) = false) (hk1 : (k % 4 == 1) = false) (hk : (k % 4 == 2) = true) :
    Calls Tryd.prog 24 #[.int .u8 k, .string s] w fun e w' => e = .returned (.string s) ∧ w = w' := by
  go_enter Tryd.func24, Tryd.ntmps24
  go_wp2
  go_ret
  exact ⟨rfl, rfl⟩
theorem zzText3 (k : Int) (s : ByteArray) (w : World) (h0 : 0 ≤ k) (h1 : k < 256) (hk0 : (k % 4 == 0) = false) (hk1 : (k % 4 == 1) = false) (hk2 : (k % 4 == 2) = false) :
    Calls Tryd.prog 24 #[.int .u8 k, .string s] w fun e w' => e = .returned (.string ⟨#[46]⟩) ∧ w = w' := by
  go_enter Tryd.func24, Tryd.ntmps24
  go_wp2
  go_ret
  exact ⟨rfl, rfl⟩

/-- zzText_b3's answer, as a byte string. -/
def txt (k : Int) (s : ByteArray) : ByteArray := ⟨(smallT k s).toArray⟩

theorem mk_app (s : ByteArray) : (⟨#[46]⟩ ++ s : ByteArray) = ⟨(46 :: s.data.toList).toArray⟩ := by
  apply ByteArray.ext
  rw [ByteArray.data_append]
  apply Array.ext'
  simp
theorem mk_self (s : ByteArray) : (⟨s.data.toList.toArray⟩ : ByteArray) = s := by
  apply ByteArray.ext; simp

theorem zzText (k : Int) (s : ByteArray) (w : World) (h0 : 0 ≤ k) (h1 : k < 256) (hs : s.size ≤ 65536) :
    Calls Tryd.prog 24 #[.int .u8 k, .string s] w fun e w' => e = .returned (.string (txt k s)) ∧ w = w' := by
  by_cases e0 : k % 4 = 0
  · have e : txt k s = s := by unfold txt smallT; rw [if_pos e0, mk_self]
    rw [e]; exact zzText0 k s w h0 h1 (by simp [e0])
  by_cases e1 : k % 4 = 1
  · have e : txt k s = ⟨#[46]⟩ ++ s := by unfold txt smallT; rw [if_neg e0, if_pos e1, mk_app]
    rw [e]; exact zzText1 k s w h0 h1 (by simp [e1]) (by simp [e1]) hs
  by_cases e2 : k % 4 = 2
  · have e : txt k s = s := by unfold txt smallT; rw [if_neg e0, if_neg e1, if_pos e2, mk_self]
    rw [e]; exact zzText2 k s w h0 h1 (by simp [e2]) (by simp [e2]) (by simp [e2])
  · have e : txt k s = ⟨#[46]⟩ := by unfold txt smallT; rw [if_neg e0, if_neg e1, if_neg e2]
    rw [e]; exact zzText3 k s w h0 h1 (by simp [e0]) (by simp [e1]) (by simp [e2])
end Go.Proofs.YtejbdgkcoajpfaaDoor
