/- zzHasSpace_b3; two elif texts (two try texts) are equal just when their parts are. Condition: at most 65536 bytes. -/
import Derived.Test.YtejbdgkcoajpfaaDoorBinT
set_option linter.unusedVariables false
namespace Go.Proofs.YtejbdgkcoajpfaaDoor
open Go.Shelf Go.RowKit

theorem getD_mem (s : ByteArray) (k : Nat) (h : k < s.size) : s[k] ∈ s.data.toList := by
  rw [Array.mem_toList_iff]; exact Array.getElem_mem _
theorem byte_ne {u : UInt8} (h : u ≠ 32) : ((u.toNat : Int) == 32) = false := by
  have : u.toNat ≠ 32 := fun e => h (UInt8.toNat_inj.1 e)
  simp; omega
theorem mem_at (s : ByteArray) (h : 32 ∈ s.data.toList) : ∃ k, ∃ hk : k < s.size, s[k] = 32 := by
  obtain ⟨k, hk, e⟩ := List.getElem_of_mem h
  refine ⟨k, by simpa using hk, ?_⟩
  show s.data[k]'_ = 32
  simpa using e

set_option maxRecDepth 100000 in
theorem zzSp_no (s : ByteArray) (w : World) (hs : s.size ≤ 65536) (h : 32 ∉ s.data.toList) :
    Calls Tryd.prog 30 #[.string s] w fun e w' => e = .returned (.bool false) ∧ w = w' := by
  have H := Lib.hid h
  clear h
  go_enter Tryd.func30, Tryd.ntmps30
  go_wp2
  go_loop [3] (fun i => ∃ k : Nat, k ≤ s.size ∧ i = .int .i64 k) (fun i => s.size - (intOf i).toNat)
  case atStart => exact ⟨0, Nat.zero_le _, rfl⟩
  case round =>
    obtain ⟨k, hk, rfl⟩ := hrel
    by_cases hlt : k < s.size
    · have hc := byte_ne (u := s[k]) (fun e => H.out (e ▸ getD_mem s k hlt))
      go_wp2
      go_round
      case rel => exact ⟨k + 1, by omega, by go_num⟩
      case measure => simp [intOf]; omega
    · go_wp2
      go_ret
      exact ⟨rfl, rfl⟩

set_option maxRecDepth 100000 in
theorem zzSp_yes (s : ByteArray) (w : World) (hs : s.size ≤ 65536) (h : 32 ∈ s.data.toList) :
    Calls Tryd.prog 30 #[.string s] w fun e w' => e = .returned (.bool true) ∧ w = w' := by
  obtain ⟨m, hm, e⟩ := mem_at s h
  have HM := Lib.hid e
  clear h e
  go_enter Tryd.func30, Tryd.ntmps30
  go_wp2
  go_loop [3] (fun i => ∃ k : Nat, k ≤ m ∧ i = .int .i64 k) (fun i => s.size - (intOf i).toNat)
  case atStart => exact ⟨0, Nat.zero_le _, rfl⟩
  case round =>
    obtain ⟨k, hk, rfl⟩ := hrel
    have hlt : k < s.size := by omega
    by_cases hb : s[k] = 32
    · have hc : ((s[k].toNat : Int) == 32) = true := by rw [hb]; rfl
      clear hb
      go_wp2
      go_ret
      exact ⟨rfl, rfl⟩
    · have hne : k ≠ m := fun e => hb (by subst e; exact HM.out)
      have hc := byte_ne hb
      clear hb
      go_wp2
      go_round
      case rel => exact ⟨k + 1, by omega, by go_num⟩
      case measure => simp [intOf]; omega

theorem split32 {a1 a2 x y : List UInt8} (h1 : 32 ∉ a1) (h2 : 32 ∉ a2) (h : a1 ++ 32 :: x = a2 ++ 32 :: y) : a1 = a2 ∧ x = y := by
  induction a1 generalizing a2 with
  | nil =>
    cases a2 with
    | nil => simpa using h
    | cons c a2 => simp at h; exact absurd h.1 (fun e => h2 (by rw [e]; simp))
  | cons b a1 ih =>
    cases a2 with
    | nil => simp at h; exact absurd h.1 (fun e => h1 (by rw [e]; simp))
    | cons c a2 =>
      simp only [List.cons_append, List.cons.injEq] at h
      obtain ⟨rfl, h⟩ := h
      obtain ⟨rfl, hx⟩ := ih (fun e => h1 (List.mem_cons_of_mem _ e)) (fun e => h2 (List.mem_cons_of_mem _ e)) h
      exact ⟨rfl, hx⟩
def elifT (a b : ByteArray) : List UInt8 := sElif ++ a.data.toList ++ sThen ++ b.data.toList
theorem ba_ext {a b : ByteArray} (h : a.data.toList = b.data.toList) : a = b := ByteArray.ext (Array.ext' h)
theorem elifT_inj (a1 b1 a2 b2 : ByteArray) (h1 : 32 ∉ a1.data.toList) (h2 : 32 ∉ a2.data.toList) : elifT a1 b1 = elifT a2 b2 ↔ a1 = a2 ∧ b1 = b2 := by
  constructor
  · intro h
    simp only [elifT, List.append_assoc] at h
    obtain ⟨e1, e2⟩ := split32 h1 h2 (List.append_cancel_left h)
    refine ⟨ba_ext e1, ba_ext ?_⟩
    simpa using e2
  · rintro ⟨rfl, rfl⟩; rfl
def tryL (b : ByteArray) (h : Bool) (c : ByteArray) : List UInt8 := sTry ++ b.data.toList ++ (if h then sCatch ++ c.data.toList else [])
theorem tryL_inj (b1 b2 c1 c2 : ByteArray) (x1 x2 : Bool) (h1 : 32 ∉ b1.data.toList) (h2 : 32 ∉ b2.data.toList) : tryL b1 x1 c1 = tryL b2 x2 c2 ↔ b1 = b2 ∧ x1 = x2 ∧ (x1 = true → c1 = c2) := by
  constructor
  · intro h
    simp only [tryL, List.append_assoc] at h
    have h := List.append_cancel_left h
    cases x1 <;> cases x2
    · simp at h; exact ⟨ba_ext (by simpa using h), rfl, fun e => by cases e⟩
    · simp only [Bool.false_eq_true, if_false, if_true, List.append_nil] at h
      exact absurd (by rw [h]; simp [sCatch]) h1
    · simp only [Bool.false_eq_true, if_false, if_true, List.append_nil] at h
      exact absurd (by rw [← h]; simp [sCatch]) h2
    · simp only [if_true] at h
      obtain ⟨e1, e2⟩ := split32 h1 h2 h
      exact ⟨ba_ext e1, rfl, fun _ => ba_ext (by simpa using e2)⟩
  · rintro ⟨rfl, rfl, h⟩
    cases x1
    · rfl
    · rw [h rfl]
theorem small0 (s : ByteArray) (l : List UInt8) : smallF 0 s l = s.data.toList := by simp [smallF]
theorem elif0_text (a b : ByteArray) (l : List UInt8) : fElif (smallF 0 a) (smallF 0 b) l = elifT a b := by
  simp only [fElif, small0, elifT]
theorem try0_text (b c : ByteArray) (l : List UInt8) : fTry (smallF 0 b) l = tryL b false c := by
  simp only [fTry, small0, tryL, Bool.false_eq_true, if_false, List.append_nil]
theorem tryc0_text (b c : ByteArray) (l : List UInt8) : fTryCatch (smallF 0 b) (smallF 0 c) l = tryL b true c := by
  simp only [fTryCatch, small0, tryL, if_true, List.append_assoc]
theorem elifT_len (a b : ByteArray) : (elifT a b).length = a.size + b.size + 11 := by
  have := Lib.size_eq a
  have := Lib.size_eq b
  have : sElif.length = 5 := rfl
  have : sThen.length = 6 := rfl
  unfold elifT
  simp only [List.length_append]
  omega
theorem tryL_len (b c : ByteArray) (x : Bool) : (tryL b x c).length ≤ b.size + c.size + 11 := by
  have := Lib.size_eq b
  have := Lib.size_eq c
  have : sTry.length = 4 := rfl
  have : sCatch.length = 7 := rfl
  unfold tryL
  cases x
  · simp only [List.length_append, Bool.false_eq_true, if_false, List.length_nil]; omega
  · simp only [List.length_append, if_true]; omega
/-- The two pairs: alike; alike in the first; else. -/
def Same2 (a c b d : ByteArray) : Prop := (a = c ∧ b = d) ∨ (a = c ∧ ¬ b = d) ∨ ¬ a = c
theorem toList_ne {a b : ByteArray} (h : ¬ a = b) : (a.toList == b.toList) = false := by
  rw [ByteArray.toList_eq, ByteArray.toList_eq]
  simpa using fun e => h (ByteArray.ext (Array.ext' (by simpa using e)))
end Go.Proofs.YtejbdgkcoajpfaaDoor
