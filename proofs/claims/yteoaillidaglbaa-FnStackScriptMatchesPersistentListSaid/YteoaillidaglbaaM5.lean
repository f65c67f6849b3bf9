/- The walk of FnStackSaveIsInvisible. -/
import Derived.Test.YteoaillidaglbaaTwin
import Derived.Deep.RegionWith
set_option linter.unusedVariables false
namespace Go.Proofs.Yteoaillidaglbaa
open Go.RowKit

theorem new_at (w : World) (B : Nat) (hB : B ≤ w.heap.size) : Calls Try.prog 8 #[] w fun e w' => e = .returned (.pointer (some ⟨w.heap.size, 0, none⟩)) ∧ Stk w' B w.heap.size [] (-1) (-1) (.slice none 0 0) ∧ Below w.heap.size w w' := by
  refine (new_any w).mono ?_
  rintro e w' ⟨rfl, h, hb⟩
  exact ⟨rfl, ⟨h.1, hB, World.ownsRow_nil _ _ _ _⟩, hb⟩
theorem Stk.below {w w' : World} {B q : Nat} {ds : List (Int × Int)} {i l : Int} {v : Value} (h : Stk w B q ds i l v) (hb : Below w.heap.size w w') : Stk w' B q ds i l v := by
  refine ⟨(hb.block q h.lt).trans h.1, h.2.1, h.2.2.1, ?_⟩
  rcases h.2.2.2 with h2 | ⟨k, cap, cur, hv, hk, hh, r⟩
  · exact Or.inl h2
  · exact Or.inr ⟨k, cap, cur, hv, hk, (hb.block k (h.2.2.lt k (by rw [hv]; rfl)).2).trans hh, r⟩
/-- save on the first of two stacks. -/
theorem twin_save (w : World) (B p q N : Nat) (xs : List Int) (h : Twin w B p q N xs) (hB : B ≤ w.heap.size) :
    Calls Try.prog 9 #[.pointer (some ⟨p, 0, none⟩)] w fun e w' => (∃ i l : Int, e = .returned (.tuple #[.int .i64 i, .int .i64 l])) ∧ Twin w' B p q N xs ∧ Below B w w' := by
  obtain ⟨da, ia, la, va, db, ib, lb, vb, ha, hb, hIa, hIb, hCa, hCb, hla, hlb, hne, hsep⟩ := h
  refine (save_any _ _ _ _ _ _ _ ha).mono ?_
  rintro e w1 ⟨rfl, ha1, hO1⟩
  have hb1 := hb.far hO1 (fun e => hne e.symm) (fun e => by cases e) (hb.cross ha) (fun k _ e' => by cases e')
  exact ⟨⟨_, _, rfl⟩, ⟨_, _, _, _, _, _, _, _, ha1, hb1, hIa.save, hIb, hCa, hCb, hla, hlb, hne, hsep⟩, only_below hO1 (Below.refl B w) hB ha.2.1 ha.2.2 (Or.inr rfl)⟩
theorem Twin.swap {w : World} {B p q N : Nat} {xs : List Int} (h : Twin w B p q N xs) : Twin w B q p N xs := by
  obtain ⟨da, ia, la, va, db, ib, lb, vb, ha, hb, hIa, hIb, hCa, hCb, hla, hlb, hne, hsep⟩ := h
  exact ⟨db, ib, lb, vb, da, ia, la, va, hb, ha, hIb, hIa, hCb, hCa, hlb, hla, fun e => hne e.symm, hsep.symm⟩
theorem Twin.drewN {w : World} {B p q N : Nat} {xs : List Int} (h : Twin w B p q N xs) (n : Nat) : Twin (w.drewN n) B p q N xs := h

set_option maxRecDepth 100000 in
set_option maxHeartbeats 1000000 in
theorem law5_main (a a' : Option Addr) (n c m d : Nat) (f g : Nat → Int) (w : World) (hn : n ≤ 65536) (hm : m ≤ 65536) (hnm : n + 8 * m ≤ 1048576) (h : RowIn .u8 w a n f) (hf : ∀ i, i < n → 0 ≤ f i ∧ f i < 256) (h' : RowIn .i64 w a' m g) :
    Calls Try.prog 5 #[.slice a n c, .slice a' m d] w fun e w' => e = .returned (.bool true) ∧ Below w.heap.size w w' := by
  have HF := Lib.hid hf
  clear hf
  go_enter Try.func5, Try.ntmps5
  go_wp2_with fail
  refine (zzb18 a a' n c m d w (by omega)).mono ?_
  rintro e w1 ⟨rfl, rfl⟩
  go_wp2_with fail
  refine (new_at w w.heap.size (Nat.le_refl _)).mono ?_
  rintro e w1 ⟨rfl, s1, b1⟩
  have L1 := s1.lt
  go_wp2_with fail
  refine (new_at w1 w.heap.size (by omega)).mono ?_
  rintro e w2 ⟨rfl, s2, b2⟩
  have hT : Twin w2 w.heap.size w.heap.size w1.heap.size 0 [] := ⟨[], -1, -1, _, [], -1, -1, _, s1.below b2, s2, Inv.empty, Inv.empty, .nil _ (by omega), .nil _ (by omega), Nat.le_refl _, Nat.le_refl _, by omega, fun k e => by cases e⟩
  have B2 : Below w.heap.size w w2 := b1.trans (b2.mono (by omega))
  clear s1 s2 b1 b2
  go_wp2_with fail
  go_loopw [7] (fun i wr => ∃ k : Nat, k ≤ n ∧ i = .int .i64 k ∧ (∃ xs, Twin wr w.heap.size w.heap.size w1.heap.size k xs) ∧ Below w.heap.size w wr) (fun i _ => n - (intOf i).toNat)
  case atStart => exact ⟨0, Nat.zero_le _, rfl, ⟨_, hT⟩, B2⟩
  case round =>
    obtain ⟨k, hk, rfl, ⟨xs, hT⟩, hb⟩ := hrel
    have LB := hb.size
    by_cases hlt : k < n
    · obtain ⟨x, rfl, hx⟩ := h.at_ hlt hb
      obtain ⟨f0, f1⟩ := HF.out k hlt
      cases t0 : (f k % 3 == 2)
      · go_wp2_with fail
        have hT1 : Twin wr.drew w.heap.size w.heap.size w1.heap.size k xs := hT
        have LB1 : w.heap.size ≤ wr.drew.heap.size := LB
        go_region_with (first | (go_at_call 11; refine (valAt a' m d g k wr.drew w h' hb.drew (by omega) (by omega) (by omega)).mono ?_; rintro e w3 ⟨⟨r, rfl⟩, rfl⟩) | (go_at_call 10; refine (twin_op wr.drew _ _ _ k xs _ _ hT1 (by omega) LB1 f0 f1 t0).mono ?_; rintro e w3 ⟨rfl, ⟨ys, hT3, hy3⟩, hb3⟩))
        all_goals
          go_wp2_with fail
          go_roundw
          case rel => exact ⟨k + 1, by omega, by go_num, ⟨_, hT3⟩, hb.drew.trans hb3⟩
          case measure => simp [intOf]; omega
      · go_wp2_with fail
        refine (twin_save _ _ _ _ _ _ hT LB).mono ?_
        rintro e w3 ⟨⟨i3, l3, rfl⟩, hT3, hb3⟩
        go_wp2_with fail
        go_roundw
        case rel => exact ⟨k + 1, by omega, by go_num, ⟨_, hT3.more (Nat.le_succ k)⟩, hb.trans hb3⟩
        case measure => simp [intOf]; omega
    · go_wp2_with fail
      refine (drain _ _ _ _ k n _ rfl xs hT (by have := hT.len; omega) (by omega) (by omega) LB).mono ?_
      rintro e w3 ⟨rfl, hb3⟩
      go_wp2_with fail
      go_ret
      exact ⟨rfl, hb.trans hb3⟩

set_option maxRecDepth 100000 in
theorem law5_early (a a' : Option Addr) (n c m d : Nat) (w : World) (hn : n ≤ 9223372036854775807) (hm : m ≤ 9223372036854775807) (h : 1048576 < n + m ∨ (n + m ≤ 1048576 ∧ 65536 < n) ∨ (n + m ≤ 1048576 ∧ n ≤ 65536 ∧ 65536 < m) ∨ (n + m ≤ 1048576 ∧ n ≤ 65536 ∧ m ≤ 65536 ∧ 1048576 < n + 8 * m)) :
    Calls Try.prog 5 #[.slice a n c, .slice a' m d] w fun e w' => e = .returned (.bool true) ∧ Below w.heap.size w w' := by
  rcases h with h | ⟨h1, h2⟩ | ⟨h1, h2, h3⟩ | ⟨h1, h2, h3, h4⟩
  all_goals
    go_enter Try.func5, Try.ntmps5
    go_wp2
    all_goals
      go_ret
      exact ⟨rfl, Below.refl _ _⟩

theorem law5 (a a' : Option Addr) (n c m d : Nat) (f g : Nat → Int) (w : World) (hn : n ≤ 9223372036854775807) (hm : m ≤ 9223372036854775807) (h : RowIn .u8 w a n f) (hf : ∀ i, i < n → 0 ≤ f i ∧ f i < 256) (h' : RowIn .i64 w a' m g) :
    Calls Try.prog 5 #[.slice a n c, .slice a' m d] w fun e w' => e = .returned (.bool true) ∧ Below w.heap.size w w' := by
  by_cases h1 : 1048576 < n + m
  · exact law5_early a a' n c m d w hn hm (Or.inl h1)
  by_cases h2 : 65536 < n
  · exact law5_early a a' n c m d w hn hm (Or.inr (Or.inl ⟨by omega, h2⟩))
  by_cases h3 : 65536 < m
  · exact law5_early a a' n c m d w hn hm (Or.inr (Or.inr (Or.inl ⟨by omega, by omega, h3⟩)))
  by_cases h4 : 1048576 < n + 8 * m
  · exact law5_early a a' n c m d w hn hm (Or.inr (Or.inr (Or.inr ⟨by omega, by omega, by omega, h4⟩)))
  exact law5_main a a' n c m d f g w (by omega) (by omega) (by omega) h hf h'
end Go.Proofs.Yteoaillidaglbaa
