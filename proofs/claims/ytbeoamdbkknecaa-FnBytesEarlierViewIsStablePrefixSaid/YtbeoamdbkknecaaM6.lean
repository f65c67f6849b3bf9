/- The walk of FnWriteStringEmptyIsNoOp. -/
import Derived.Test.YtbeoamdbkknecaaM5
set_option linter.unusedVariables false
namespace Go.Proofs.Ytbeoamdbkknecaa
open Go.RowKit

theorem bt_app (s t : ByteArray) (i : Nat) (h : i < (s ++ t).size) : PlainAid.bt (s ++ t) i = if i < s.size then PlainAid.bt s i else PlainAid.bt t (i - s.size) := by
  have hz : (s ++ t).size = s.size + t.size := ByteArray.size_append
  have hd : (s ++ t).data.toList = s.data.toList ++ t.data.toList := by rw [ByteArray.data_append, Array.toList_append]
  have key : ∀ (u : ByteArray) (j : Nat) (hj : j < u.size), PlainAid.bt u j = ((u.data.toList.getD j 0).toNat : Int) := by
    intro u j hj
    have h2 : j < u.data.toList.length := by rw [← Lib.size_eq]; exact hj
    unfold PlainAid.bt
    rw [dif_pos hj, List.getD_eq_getElem?_getD, List.getElem?_eq_getElem h2]
    rfl
  have hs := Lib.size_eq s
  by_cases e : i < s.size
  · rw [if_pos e, key _ _ h, key _ _ e, hd, List.getD_eq_getElem?_getD, List.getD_eq_getElem?_getD, List.getElem?_append_left (by omega)]
  · rw [if_neg e, key _ _ h, key _ _ (by omega), hd, List.getD_eq_getElem?_getD, List.getD_eq_getElem?_getD, List.getElem?_append_right (by omega), ← hs]

set_option maxRecDepth 100000 in
theorem law6_main (N : Nat) (s : ByteArray) (w : World) (hN : N ≤ 65536) (hs : s.size + 1 < N) :
    Calls Try.prog 6 #[.int .i64 (N : Int), .string s] w fun e w' => e = .returned (.bool true) ∧ Below w.heap.size w w' := by
  go_enter Try.func6, Try.ntmps6
  go_wp2_with fail
  refine (zzb23 _ s w (by omega)).mono ?_
  rintro e w1 ⟨rfl, rfl⟩
  go_wp2_with fail
  refine (newA N w hN).mono ?_
  rintro e w1 ⟨rfl, l1, b1⟩
  have L1 := b1.size
  go_wp2_with fail
  refine (writeString _ _ _ _ _ _ _ s l1 hN (by omega)).mono ?_
  rintro e w2 ⟨rfl, l2, o2⟩
  have b2 := o2.below b1 L1 (by omega) (Nat.le_refl _)
  have L2 := b2.size
  rw [Nat.zero_add] at l2
  go_wp2_with fail
  refine (writeString _ _ _ _ _ _ _ ⟨#[]⟩ l2 hN (by show s.size + 0 < N; omega)).mono ?_
  rintro e w3 ⟨rfl, l3, o3⟩
  have b3 := o3.below b2 L2 (by omega) (Nat.le_refl _)
  have L3 := b3.size
  have l3' : LW w3 w.heap.size (w.heap.size + 1) w.heap.size N s.size (pushN (pushN (fun _ => 0) 0 s.size (PlainAid.bt s)) s.size 0 (PlainAid.bt ⟨#[]⟩)) := l3
  clear l3
  go_wp2_with fail
  refine (bytesA _ _ _ _ _ _ _ l3' hN).mono ?_
  rintro e w5 ⟨rfl, q5⟩
  have l5 := q5.lw l3'
  go_wp2_with fail
  refine (same _ _ N N _ s l5.2.1 (by omega) hN (fun i hi => by rw [pushN_old _ _ _ _ _ hi]; exact pushN_zero _ _ _ _ hi)).mono ?_
  rintro e w6 ⟨rfl, q6⟩
  have l6 := q6.lw l5
  have b6 := q6.below (q5.below b3)
  go_wp2_with fail
  refine (writeString _ _ _ _ _ _ _ ⟨#[122]⟩ l6 hN (by show s.size + 1 < N; omega)).mono ?_
  rintro e w7 ⟨rfl, l7, o7⟩
  have b7 := o7.below b6 b6.size (by omega) (Nat.le_refl _)
  have l7' : LW w7 w.heap.size (w.heap.size + 1) w.heap.size N (s.size + 1) (pushN (pushN (pushN (fun _ => 0) 0 s.size (PlainAid.bt s)) s.size 0 (PlainAid.bt ⟨#[]⟩)) s.size 1 (PlainAid.bt ⟨#[122]⟩)) := l7
  clear l7
  go_wp2_with fail
  refine (bytesA _ _ _ _ _ _ _ l7' hN).mono ?_
  rintro e w8 ⟨rfl, q8⟩
  have hz : (s ++ ⟨#[122]⟩ : ByteArray).size = s.size + 1 := ByteArray.size_append
  have HS := Lib.hid (same w8 _ N N _ (s ++ ⟨#[122]⟩) (q8.lw l7').2.1 (by omega) hN (fun i hi => by
    rw [bt_app _ _ _ hi]
    by_cases e : i < s.size
    · rw [if_pos e, pushN_old _ _ _ _ _ e, pushN_old _ _ _ _ _ e]; exact pushN_zero _ _ _ _ e
    · rw [if_neg e]
      obtain rfl : i = s.size := by omega
      have := pushN_at (pushN (pushN (fun _ => 0) 0 s.size (PlainAid.bt s)) s.size 0 (PlainAid.bt ⟨#[]⟩)) (PlainAid.bt ⟨#[122]⟩) s.size 1 0 (by omega)
      rw [Nat.add_zero] at this
      rw [this, Nat.sub_self]))
  rw [hz] at HS
  clear hz
  go_wp2_with fail
  refine HS.out.mono ?_
  rintro e w9 ⟨rfl, q9⟩
  go_wp2_with fail
  go_ret
  exact ⟨rfl, q9.below (q8.below b7)⟩

set_option maxRecDepth 100000 in
theorem law6_early (n : Int) (s : ByteArray) (w : World) (hs : s.size ≤ 9223372036854775807) (h : (1048576 < s.size) ∨ (s.size ≤ 1048576 ∧ n < 1) ∨ (s.size ≤ 1048576 ∧ 65536 < n) ∨ (s.size ≤ 1048576 ∧ 1 ≤ n ∧ n ≤ 65536 ∧ n ≤ (s.size : Int) + 1)) :
    Calls Try.prog 6 #[.int .i64 n, .string s] w fun e w' => e = .returned (.bool true) ∧ Below w.heap.size w w' := by
  rcases h with g0 | ⟨g0, g1⟩ | ⟨g0, g1⟩ | ⟨g0, g1, g2, g3⟩
  all_goals
    go_enter Try.func6, Try.ntmps6
    go_wp2
    all_goals
      go_ret
      exact ⟨rfl, Below.refl _ _⟩

theorem law6 (n : Int) (s : ByteArray) (w : World) (hs : s.size ≤ 9223372036854775807) :
    Calls Try.prog 6 #[.int .i64 n, .string s] w fun e w' => e = .returned (.bool true) ∧ Below w.heap.size w w' := by
  by_cases h1 : 1048576 < s.size
  · exact law6_early n s w hs (Or.inl h1)
  by_cases h2 : n < 1
  · exact law6_early n s w hs (Or.inr (Or.inl ⟨by omega, h2⟩))
  by_cases h3 : 65536 < n
  · exact law6_early n s w hs (Or.inr (Or.inr (Or.inl ⟨by omega, h3⟩)))
  by_cases h4 : n ≤ (s.size : Int) + 1
  · exact law6_early n s w hs (Or.inr (Or.inr (Or.inr ⟨by omega, by omega, by omega, h4⟩)))
  obtain ⟨N, rfl⟩ : ∃ N : Nat, n = (N : Int) := ⟨n.toNat, by omega⟩
  exact law6_main N s w (by omega) (by omega)
end Go.Proofs.Ytbeoamdbkknecaa
