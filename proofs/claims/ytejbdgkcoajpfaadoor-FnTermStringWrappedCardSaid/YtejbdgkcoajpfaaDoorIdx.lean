/- Index.writeTo of a field name that is not empty, in the notion Prints: a blank behind a dot or a digit, a dot, the name. Condition: the text stays below 2^40 bytes. -/
import Derived.Test.YtejbdgkcoajpfaaDoorLeaf
set_option linter.unusedVariables false
namespace Go.Proofs.YtejbdgkcoajpfaaDoor
open Go.Shelf Go.RowKit

theorem last_at (l : List UInt8) (c : UInt8) (h : l.length < (ByteArray.mk (l ++ [c]).toArray).size) : (ByteArray.mk (l ++ [c]).toArray)[l.length] = c := by
  show (l ++ [c]).toArray[l.length]'_ = c
  simp

theorem gapB_snoc (l : List UInt8) (c : UInt8) : gapB (l ++ [c]) = (c == 46 || (48 ≤ c && c ≤ 57)) := by
  simp [gapB]

set_option maxRecDepth 100000 in
theorem index_at_nil (w0 : World) (a : Nat) (s : ByteArray) (hsuf : Prints 68 w0 ⟨a, 0, none⟩ (fun _ => s.data.toList)) (B b : Nat) (w : World) (hB : w0.heap.size ≤ B) (hbw : Below w0.heap.size w0 w) (hbb : BB B b [] w) (hlen : s.data.toList.length + 1 ≤ 1099511627776) :
    Calls Tryd.prog 51 #[.pointer (some ⟨a, 0, none⟩), .pointer (some ⟨b, 0, none⟩)] w fun e w' => e = .returned (.tuple #[]) ∧ BB B b (46 :: s.data.toList) w' ∧ Below B w w' := by
  go_enter Tryd.func51, Tryd.ntmps51
  go_wp2_with fail
  refine (bb_Len B b _ _ hbb).mono ?_
  rintro e w1 ⟨rfl, rfl⟩
  go_wp2_with fail
  refine (bb_WriteByte B b _ 46 46 _ hbb rfl (by simp only [List.length_nil]; omega)).mono ?_
  rintro e w3 ⟨rfl, h3, b3⟩
  go_wp2_with fail
  refine (hsuf B b _ w3 hB (hbw.trans (b3.mono hB)) h3 (by simp only [List.length_append, List.length_cons, List.length_nil]; omega)).mono ?_
  rintro e w4 ⟨rfl, h4, b4⟩
  go_wp2_with fail
  go_end0
  exact ⟨rfl, h4, b3.trans b4⟩

set_option maxRecDepth 100000 in
theorem index_at_dot (w0 : World) (a : Nat) (s : ByteArray) (hsuf : Prints 68 w0 ⟨a, 0, none⟩ (fun _ => s.data.toList)) (B b : Nat) (l : List UInt8) (c : UInt8) (w : World) (hB : w0.heap.size ≤ B) (hbw : Below w0.heap.size w0 w) (hbb : BB B b (l ++ [c]) w) (hlen : l.length + s.data.toList.length + 3 ≤ 1099511627776) (h46 : (c.toNat : Int) = 46) :
    Calls Tryd.prog 51 #[.pointer (some ⟨a, 0, none⟩), .pointer (some ⟨b, 0, none⟩)] w fun e w' => e = .returned (.tuple #[]) ∧ BB B b (l ++ [c] ++ [32] ++ [46] ++ s.data.toList) w' ∧ Below B w w' := by
  have hl : l.length ≤ 1099511627776 := by omega
  have hix := last_at l c
  go_enter Tryd.func51, Tryd.ntmps51
  go_wp2_with fail
  refine (bb_Len B b _ _ hbb).mono ?_
  rintro e w1 ⟨rfl, rfl⟩
  go_wp2_with fail
  refine (bb_String B b _ _ hbb).mono ?_
  rintro e w1 ⟨rfl, h1, b1⟩
  go_wp2_with fail
  refine (bb_WriteByte B b _ 32 32 _ h1 rfl (by simp only [List.length_append, List.length_cons, List.length_nil]; omega)).mono ?_
  rintro e w2 ⟨rfl, h2, b2⟩
  go_wp2_with fail
  refine (bb_WriteByte B b _ 46 46 _ h2 rfl (by simp only [List.length_append, List.length_cons, List.length_nil]; omega)).mono ?_
  rintro e w3 ⟨rfl, h3, b3⟩
  go_wp2_with fail
  refine (hsuf B b _ w3 hB (hbw.trans (((b1.trans b2).trans b3).mono hB)) h3 (by simp only [List.length_append, List.length_cons, List.length_nil]; omega)).mono ?_
  rintro e w4 ⟨rfl, h4, b4⟩
  go_wp2_with fail
  go_end0
  exact ⟨rfl, h4, ((b1.trans b2).trans b3).trans b4⟩

set_option maxRecDepth 100000 in
theorem index_at_digit (w0 : World) (a : Nat) (s : ByteArray) (hsuf : Prints 68 w0 ⟨a, 0, none⟩ (fun _ => s.data.toList)) (B b : Nat) (l : List UInt8) (c : UInt8) (w : World) (hB : w0.heap.size ≤ B) (hbw : Below w0.heap.size w0 w) (hbb : BB B b (l ++ [c]) w) (hlen : l.length + s.data.toList.length + 3 ≤ 1099511627776) (h46 : ¬ (c.toNat : Int) = 46) (h48 : 48 ≤ (c.toNat : Int)) (h57 : (c.toNat : Int) ≤ 57) :
    Calls Tryd.prog 51 #[.pointer (some ⟨a, 0, none⟩), .pointer (some ⟨b, 0, none⟩)] w fun e w' => e = .returned (.tuple #[]) ∧ BB B b (l ++ [c] ++ [32] ++ [46] ++ s.data.toList) w' ∧ Below B w w' := by
  have hl : l.length ≤ 1099511627776 := by omega
  have hix := last_at l c
  go_enter Tryd.func51, Tryd.ntmps51
  go_wp2_with fail
  refine (bb_Len B b _ _ hbb).mono ?_
  rintro e w1 ⟨rfl, rfl⟩
  go_wp2_with fail
  refine (bb_String B b _ _ hbb).mono ?_
  rintro e w1 ⟨rfl, h1, b1⟩
  go_wp2_with fail
  refine (bb_WriteByte B b _ 32 32 _ h1 rfl (by simp only [List.length_append, List.length_cons, List.length_nil]; omega)).mono ?_
  rintro e w2 ⟨rfl, h2, b2⟩
  go_wp2_with fail
  refine (bb_WriteByte B b _ 46 46 _ h2 rfl (by simp only [List.length_append, List.length_cons, List.length_nil]; omega)).mono ?_
  rintro e w3 ⟨rfl, h3, b3⟩
  go_wp2_with fail
  refine (hsuf B b _ w3 hB (hbw.trans (((b1.trans b2).trans b3).mono hB)) h3 (by simp only [List.length_append, List.length_cons, List.length_nil]; omega)).mono ?_
  rintro e w4 ⟨rfl, h4, b4⟩
  go_wp2_with fail
  go_end0
  exact ⟨rfl, h4, ((b1.trans b2).trans b3).trans b4⟩

set_option maxRecDepth 100000 in
theorem index_at_low (w0 : World) (a : Nat) (s : ByteArray) (hsuf : Prints 68 w0 ⟨a, 0, none⟩ (fun _ => s.data.toList)) (B b : Nat) (l : List UInt8) (c : UInt8) (w : World) (hB : w0.heap.size ≤ B) (hbw : Below w0.heap.size w0 w) (hbb : BB B b (l ++ [c]) w) (hlen : l.length + s.data.toList.length + 3 ≤ 1099511627777) (h46 : ¬ (c.toNat : Int) = 46) (h48 : ¬ 48 ≤ (c.toNat : Int)) :
    Calls Tryd.prog 51 #[.pointer (some ⟨a, 0, none⟩), .pointer (some ⟨b, 0, none⟩)] w fun e w' => e = .returned (.tuple #[]) ∧ BB B b (l ++ [c] ++ [46] ++ s.data.toList) w' ∧ Below B w w' := by
  have hl : l.length ≤ 1099511627776 := by omega
  have hix := last_at l c
  go_enter Tryd.func51, Tryd.ntmps51
  go_wp2_with fail
  refine (bb_Len B b _ _ hbb).mono ?_
  rintro e w1 ⟨rfl, rfl⟩
  go_wp2_with fail
  refine (bb_String B b _ _ hbb).mono ?_
  rintro e w1 ⟨rfl, h1, b1⟩
  go_wp2_with fail
  refine (bb_WriteByte B b _ 46 46 _ h1 rfl (by simp only [List.length_append, List.length_cons, List.length_nil]; omega)).mono ?_
  rintro e w3 ⟨rfl, h3, b3⟩
  go_wp2_with fail
  refine (hsuf B b _ w3 hB (hbw.trans ((b1.trans b3).mono hB)) h3 (by simp only [List.length_append, List.length_cons, List.length_nil]; omega)).mono ?_
  rintro e w4 ⟨rfl, h4, b4⟩
  go_wp2_with fail
  go_end0
  exact ⟨rfl, h4, (b1.trans b3).trans b4⟩

set_option maxRecDepth 100000 in
theorem index_at_high (w0 : World) (a : Nat) (s : ByteArray) (hsuf : Prints 68 w0 ⟨a, 0, none⟩ (fun _ => s.data.toList)) (B b : Nat) (l : List UInt8) (c : UInt8) (w : World) (hB : w0.heap.size ≤ B) (hbw : Below w0.heap.size w0 w) (hbb : BB B b (l ++ [c]) w) (hlen : l.length + s.data.toList.length + 3 ≤ 1099511627777) (h46 : ¬ (c.toNat : Int) = 46) (h48 : 48 ≤ (c.toNat : Int)) (h57 : 57 < (c.toNat : Int)) :
    Calls Tryd.prog 51 #[.pointer (some ⟨a, 0, none⟩), .pointer (some ⟨b, 0, none⟩)] w fun e w' => e = .returned (.tuple #[]) ∧ BB B b (l ++ [c] ++ [46] ++ s.data.toList) w' ∧ Below B w w' := by
  have hl : l.length ≤ 1099511627776 := by omega
  have hix := last_at l c
  have h57b : decide ((c.toNat : Int) ≤ 57) = false := by simp; omega
  have h46b : ((c.toNat : Int) == 46) = false := by simp; omega
  go_enter Tryd.func51, Tryd.ntmps51
  go_wp2_with fail
  refine (bb_Len B b _ _ hbb).mono ?_
  rintro e w1 ⟨rfl, rfl⟩
  go_wp2_with fail
  refine (bb_String B b _ _ hbb).mono ?_
  rintro e w1 ⟨rfl, h1, b1⟩
  go_wp2_with fail
  refine (bb_WriteByte B b _ 46 46 _ h1 rfl (by simp only [List.length_append, List.length_cons, List.length_nil]; omega)).mono ?_
  rintro e w3 ⟨rfl, h3, b3⟩
  go_wp2_with fail
  refine (hsuf B b _ w3 hB (hbw.trans ((b1.trans b3).mono hB)) h3 (by simp only [List.length_append, List.length_cons, List.length_nil]; omega)).mono ?_
  rintro e w4 ⟨rfl, h4, b4⟩
  go_wp2_with fail
  go_end0
  exact ⟨rfl, h4, (b1.trans b3).trans b4⟩

theorem index_name (w0 : World) (a : Nat) (s : ByteArray) (ha : a < w0.heap.size) (hs : s.toList.isEmpty = false)
    (c0 : w0.cell? ⟨a, 0, none⟩ = some (.string s)) :
    Prints 51 w0 ⟨a, 0, none⟩ (fun l => gap l ++ (46 :: s.data.toList)) := by
  have hsuf := index_suffix w0 a s ha hs c0
  intro B b l w hB hbw hbb hlen
  dsimp only at hlen ⊢
  rcases List.eq_nil_or_concat l with rfl | ⟨l', c, rfl⟩
  · refine (index_at_nil w0 a s hsuf B b w hB hbw hbb (by have e0 : gap [] = [] := rfl; rw [e0] at hlen; simp only [List.length_append, List.length_cons, List.length_nil] at hlen; omega)).mono ?_
    rintro e w' ⟨rfl, h, hb⟩
    exact ⟨rfl, h, hb⟩
  · rw [List.concat_eq_append] at *
    have hc : (c == 46 || (decide (48 ≤ c) && decide (c ≤ 57))) = decide ((c.toNat : Int) = 46 ∨ (48 ≤ (c.toNat : Int) ∧ (c.toNat : Int) ≤ 57)) := by
      rw [Bool.eq_iff_iff]
      simp [UInt8.le_iff_toNat_le, ← UInt8.toNat_inj]
      omega
    by_cases hg : (c.toNat : Int) = 46 ∨ (48 ≤ (c.toNat : Int) ∧ (c.toNat : Int) ≤ 57)
    · have eg : gap (l' ++ [c]) = [32] := by rw [gap, gapB_snoc, hc]; simp [hg]
      rw [eg] at hlen ⊢
      have hl3 : l'.length + s.data.toList.length + 3 ≤ 1099511627776 := by simp only [List.length_append, List.length_cons, List.length_nil] at hlen ⊢; omega
      have fin : ∀ (e : Ending) (w' : World), (e = .returned (.tuple #[]) ∧ BB B b (l' ++ [c] ++ [32] ++ [46] ++ s.data.toList) w' ∧ Below B w w') → (e = .returned (.tuple #[]) ∧ BB B b (l' ++ [c] ++ ([32] ++ 46 :: s.data.toList)) w' ∧ Below B w w') := by
        rintro e w' ⟨rfl, h, hb⟩
        exact ⟨rfl, by simpa using h, hb⟩
      by_cases h46 : (c.toNat : Int) = 46
      · exact (index_at_dot w0 a s hsuf B b l' c w hB hbw hbb hl3 h46).mono fin
      · exact (index_at_digit w0 a s hsuf B b l' c w hB hbw hbb hl3 h46 (by omega) (by omega)).mono fin
    · have eg : gap (l' ++ [c]) = [] := by rw [gap, gapB_snoc, hc]; simp [hg]
      rw [eg] at hlen ⊢
      have hl3 : l'.length + s.data.toList.length + 3 ≤ 1099511627777 := by simp only [List.length_append, List.length_cons, List.length_nil] at hlen ⊢; omega
      have fin : ∀ (e : Ending) (w' : World), (e = .returned (.tuple #[]) ∧ BB B b (l' ++ [c] ++ [46] ++ s.data.toList) w' ∧ Below B w w') → (e = .returned (.tuple #[]) ∧ BB B b (l' ++ [c] ++ ([] ++ 46 :: s.data.toList)) w' ∧ Below B w w') := by
        rintro e w' ⟨rfl, h, hb⟩
        exact ⟨rfl, by simpa using h, hb⟩
      by_cases h48 : 48 ≤ (c.toNat : Int)
      · exact (index_at_high w0 a s hsuf B b l' c w hB hbw hbb hl3 (by omega) h48 (by omega)).mono fin
      · exact (index_at_low w0 a s hsuf B b l' c w hB hbw hbb hl3 (by omega) h48).mono fin
end Go.Proofs.YtejbdgkcoajpfaaDoor
