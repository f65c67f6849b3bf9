/- The walk of FnStackRestoreForgetsTheMiddle. -/
import Derived.Test.YteoaillidaglbaaM5
set_option linter.unusedVariables false
namespace Go.Proofs.Yteoaillidaglbaa
open Go.RowKit

/-- While the middle runs: the first stack rests; of the second the chain that save saw stays. -/
def Mid (w : World) (B p q N M : Nat) (i0 l0 : Int) (xs : List Int) : Prop :=
  ∃ da ia la va db ib lb vb, Stk w B p da ia la va ∧ Stk w B q db ib lb vb ∧ Inv da ia la ∧ Inv db ib lb ∧ Chain da ia xs ∧ Chain db i0 xs ∧ da.length ≤ N ∧ db.length ≤ M ∧ p ≠ q ∧ Sep va vb ∧
    -1 ≤ i0 ∧ -1 ≤ l0 ∧ i0 ≤ lb ∧ l0 ≤ lb
theorem Mid.of_save {w : World} {B p q N M : Nat} {i0 l0 : Int} {xs : List Int} (h : Mid w B p q N M i0 l0 xs) (hM : M ≤ 2097152) (hB : B ≤ w.heap.size) :
    Calls Try.prog 9 #[.pointer (some ⟨q, 0, none⟩)] w fun e w' => (∃ i l : Int, e = .returned (.tuple #[.int .i64 i, .int .i64 l])) ∧ Mid w' B p q N M i0 l0 xs ∧ Below B w w' := by
  obtain ⟨da, ia, la, va, db, ib, lb, vb, ha, hb, hIa, hIb, hCa, hCb, hla, hlb, hne, hsep, h1, h2, h3, h4⟩ := h
  refine (save_any _ _ _ _ _ _ _ hb).mono ?_
  rintro e w1 ⟨rfl, hb1, hO1⟩
  have ha1 := ha.far hO1 hne (fun e => by cases e) (ha.cross hb) (fun k _ e' => by cases e')
  exact ⟨⟨_, _, rfl⟩, ⟨_, _, _, _, _, _, _, _, ha1, hb1, hIa, hIb.save, hCa, hCb, hla, hlb, hne, hsep, h1, h2, by omega, by omega⟩, only_below hO1 (Below.refl B w) hB hb.2.1 hb.2.2 (Or.inr rfl)⟩
theorem Mid.of_push {w : World} {B p q N M : Nat} {i0 l0 : Int} {xs : List Int} (x : Int) (h : Mid w B p q N M i0 l0 xs) (hM : M ≤ 2097152) (hB : B ≤ w.heap.size) :
    Calls Try.prog 12 #[.pointer (some ⟨q, 0, none⟩), .int .i64 x] w fun e w' => e = .returned (.tuple #[]) ∧ Mid w' B p q N (M + 1) i0 l0 xs ∧ Below B w w' := by
  obtain ⟨da, ia, la, va, db, ib, lb, vb, ha, hb, hIa, hIb, hCa, hCb, hla, hlb, hne, hsep, h1, h2, h3, h4⟩ := h
  refine (push_any _ _ _ _ _ _ _ x hb hIb (by omega) hB).mono ?_
  rintro e w1 ⟨rfl, ⟨vb1, hb1, hv1⟩, hO1⟩
  have hx := hb.cross ha
  have ha1 := ha.far hO1 hne (fun e => hx e.symm) (ha.cross hb) (fun k e e' => hsep k e e'.symm)
  exact ⟨rfl, ⟨_, _, _, _, _, _, _, _, ha1, hb1, hIa, hIb.push x, hCa, hCb.far hIb (by omega), hla, by have := (pushDs_len x hIb).2.1; omega, hne, (hsep.symm.push ha hv1).symm, h1, h2, by omega, by omega⟩, only_below hO1 (Below.refl B w) hB hb.2.1 hb.2.2 (Or.inl rfl)⟩
theorem Mid.of_empty {w : World} {B p q N M : Nat} {i0 l0 : Int} {xs : List Int} (h : Mid w B p q N M i0 l0 xs) :
    ∃ r : Bool, Calls Try.prog 13 #[.pointer (some ⟨q, 0, none⟩)] w (fun e w' => e = .returned (.bool r) ∧ w = w') ∧ (r = false → M ≤ 2097152 → B ≤ w.heap.size →
      Calls Try.prog 14 #[.pointer (some ⟨q, 0, none⟩)] w fun e w' => (∃ y : Int, e = .returned (.int .i64 y)) ∧ Mid w' B p q N M i0 l0 xs ∧ Below B w w') := by
  obtain ⟨da, ia, la, va, db, ib, lb, vb, ha, hb, hIa, hIb, hCa, hCb, hla, hlb, hne, hsep, h1, h2, h3, h4⟩ := h
  refine ⟨decide (ib < 0), empty_any _ _ _ _ _ _ _ hb, fun hr hM hB => ?_⟩
  have hi : ¬ ib < 0 := by simpa using hr
  have hlt : ib.toNat < db.length := by have := hIb.i1; omega
  obtain ⟨⟨y, ny⟩, hp⟩ : ∃ z, db[ib.toNat]? = some z := ⟨_, List.getElem?_eq_getElem hlt⟩
  refine (pop_any _ _ _ _ _ _ _ y ny hb (by omega) hp (by omega)).mono ?_
  rintro e w1 ⟨rfl, hb1, hO1⟩
  have ha1 := ha.far hO1 hne (fun e => by cases e) (ha.cross hb) (fun k _ e' => by cases e')
  exact ⟨⟨_, rfl⟩, ⟨_, _, _, _, _, _, _, _, ha1, hb1, hIa, hIb.pop (by omega) hp, hCa, hCb, hla, hlb, hne, hsep, h1, h2, h3, h4⟩, only_below hO1 (Below.refl B w) hB hb.2.1 hb.2.2 (Or.inr rfl)⟩
theorem Mid.of_restore {w : World} {B p q N M : Nat} {i0 l0 : Int} {xs : List Int} (h : Mid w B p q N M i0 l0 xs) (hNM : N ≤ M) (hB : B ≤ w.heap.size) :
    Calls Try.prog 15 #[.pointer (some ⟨q, 0, none⟩), .int .i64 i0, .int .i64 l0] w fun e w' => e = .returned (.tuple #[]) ∧ Twin w' B p q M xs ∧ Below B w w' := by
  obtain ⟨da, ia, la, va, db, ib, lb, vb, ha, hb, hIa, hIb, hCa, hCb, hla, hlb, hne, hsep, h1, h2, h3, h4⟩ := h
  refine (restore_any _ _ _ _ _ _ _ i0 l0 hb).mono ?_
  rintro e w1 ⟨rfl, hb1, hO1⟩
  have ha1 := ha.far hO1 hne (fun e => by cases e) (ha.cross hb) (fun k _ e' => by cases e')
  have hl1 := hIb.l1
  exact ⟨rfl, ⟨_, _, _, _, _, _, _, _, ha1, hb1, hIa, ⟨h1, by omega, h2, by omega, hIb.nx⟩, hCa, hCb, by omega, hlb, hne, hsep⟩, only_below hO1 (Below.refl B w) hB hb.2.1 hb.2.2 (Or.inr rfl)⟩
/-- The save ahead of the middle. -/
theorem Twin.to_mid {w : World} {B p q N : Nat} {xs : List Int} (h : Twin w B p q N xs) (hB : B ≤ w.heap.size) :
    Calls Try.prog 9 #[.pointer (some ⟨q, 0, none⟩)] w fun e w' => (∃ i l : Int, e = .returned (.tuple #[.int .i64 i, .int .i64 l]) ∧ Mid w' B p q N N i l xs) ∧ Below B w w' := by
  obtain ⟨da, ia, la, va, db, ib, lb, vb, ha, hb, hIa, hIb, hCa, hCb, hla, hlb, hne, hsep⟩ := h
  refine (save_any _ _ _ _ _ _ _ hb).mono ?_
  rintro e w1 ⟨rfl, hb1, hO1⟩
  have ha1 := ha.far hO1 hne (fun e => by cases e) (ha.cross hb) (fun k _ e' => by cases e')
  exact ⟨⟨_, _, rfl, _, _, _, _, _, _, _, _, ha1, hb1, hIa, hIb.save, hCa, hCb, hla, hlb, hne, hsep, hIb.i0, hIb.l0, by omega, by omega⟩, only_below hO1 (Below.refl B w) hB hb.2.1 hb.2.2 (Or.inr rfl)⟩
/-- save on the second of two stacks. -/
theorem twin_save2 (w : World) (B p q N : Nat) (xs : List Int) (h : Twin w B p q N xs) (hB : B ≤ w.heap.size) :
    Calls Try.prog 9 #[.pointer (some ⟨q, 0, none⟩)] w fun e w' => (∃ i l : Int, e = .returned (.tuple #[.int .i64 i, .int .i64 l])) ∧ Twin w' B p q N xs ∧ Below B w w' :=
  (twin_save w B q p N xs h.swap hB).mono fun _ _ ⟨h1, h2, h3⟩ => ⟨h1, h2.swap, h3⟩

set_option maxRecDepth 100000 in
set_option maxHeartbeats 2000000 in
theorem law3_main (a1 a2 a3 a' : Option Addr) (n1 c1 n2 c2 n3 c3 m d : Nat) (f1 f2 f3 g : Nat → Int) (w : World) (hn1 : n1 ≤ 65536) (hn2 : n2 ≤ 65536) (hn3 : n3 ≤ 65536) (hm : m ≤ 65536) (hnm : n1 + n2 + n3 + 8 * m ≤ 1048576)
    (h1 : RowIn .u8 w a1 n1 f1) (hf1 : ∀ i, i < n1 → 0 ≤ f1 i ∧ f1 i < 256) (h2 : RowIn .u8 w a2 n2 f2) (hf2 : ∀ i, i < n2 → 0 ≤ f2 i ∧ f2 i < 256) (h3 : RowIn .u8 w a3 n3 f3) (hf3 : ∀ i, i < n3 → 0 ≤ f3 i ∧ f3 i < 256) (h' : RowIn .i64 w a' m g) :
    Calls Try.prog 3 #[.slice a1 n1 c1, .slice a2 n2 c2, .slice a3 n3 c3, .slice a' m d] w fun e w' => e = .returned (.bool true) ∧ Below w.heap.size w w' := by
  have HF1 := Lib.hid hf1
  have HF2 := Lib.hid hf2
  have HF3 := Lib.hid hf3
  clear hf1 hf2 hf3
  go_enter Try.func3, Try.ntmps3
  go_wp2_with fail
  refine (zzb7 a1 a2 a3 a' n1 c1 n2 c2 n3 c3 m d w (by omega)).mono ?_
  rintro e w1 ⟨rfl, rfl⟩
  go_wp2_with fail
  refine (new_at w w.heap.size (Nat.le_refl _)).mono ?_
  rintro e w1 ⟨rfl, s1, b1⟩
  have L1 := s1.lt
  go_wp2_with fail
  refine (new_at w1 w.heap.size (by omega)).mono ?_
  rintro e w2 ⟨rfl, s2, b2⟩
  have hT : Twin w2 w.heap.size w.heap.size w1.heap.size 0 [] := ⟨[], -1, -1, _, [], -1, -1, _, s1.below b2, s2, Inv.empty, Inv.empty, .nil _ (by omega), .nil _ (by omega), Nat.le_refl _, Nat.le_refl _, by omega, fun k e => by cases e⟩
  have B2 : Below w.heap.size w w2 := b1.trans (b2.mono (by omega))
  clear s1 s2 b1 b2
  go_wp2_with fail
  go_loopw [11] (fun i wr => ∃ k : Nat, k ≤ n1 ∧ i = .int .i64 k ∧ (∃ xs, Twin wr w.heap.size w.heap.size w1.heap.size k xs) ∧ Below w.heap.size w wr) (fun i _ => n1 - (intOf i).toNat)
  case atStart => exact ⟨0, Nat.zero_le _, rfl, ⟨_, hT⟩, B2⟩
  case round =>
    obtain ⟨k, hk, rfl, ⟨xs, hT⟩, hb⟩ := hrel
    have LB := hb.size
    by_cases hlt : k < n1
    · obtain ⟨x, rfl, hx⟩ := h1.at_ hlt hb
      obtain ⟨f0, f1'⟩ := HF1.out k hlt
      cases t0 : (f1 k % 3 == 2)
      · go_wp2_with fail
        have hT1 : Twin wr.drew w.heap.size w.heap.size w1.heap.size k xs := hT
        have LB1 : w.heap.size ≤ wr.drew.heap.size := LB
        go_region_with (first | (go_at_call 11; refine (valAt a' m d g k wr.drew w h' hb.drew (by omega) (by omega) (by omega)).mono ?_; rintro e w3 ⟨⟨r, rfl⟩, rfl⟩) | (go_at_call 10; refine (twin_op wr.drew _ _ _ k xs _ _ hT1 (by omega) LB1 f0 f1' t0).mono ?_; rintro e w3 ⟨rfl, ⟨ys, hT3, hy3⟩, hb3⟩))
        all_goals
          go_wp2_with fail
          go_roundw
          case rel => exact ⟨k + 1, by omega, by go_num, ⟨_, hT3⟩, hb.drew.trans hb3⟩
          case measure => simp [intOf]; omega
      · go_wp2_with fail
        refine (twin_save2 _ _ _ _ _ _ hT LB).mono ?_
        rintro e w3 ⟨⟨i3, l3, rfl⟩, hT3, hb3⟩
        go_wp2_with fail
        go_roundw
        case rel => exact ⟨k + 1, by omega, by go_num, ⟨_, hT3.more (Nat.le_succ k)⟩, hb.trans hb3⟩
        case measure => simp [intOf]; omega
    · have hxs := hT.len
      go_wp2_with fail
      refine (hT.to_mid LB).mono ?_
      rintro e w3 ⟨⟨i3, l3, rfl, hM3⟩, hb3⟩
      have hb4 := hb.trans hb3
      clear hT hb hb3
      go_wp2_with fail
      go_loopw [14] (fun i wr => ∃ j : Nat, j ≤ n2 ∧ i = .int .i64 j ∧ Mid wr w.heap.size w.heap.size w1.heap.size k (k + j) i3 l3 xs ∧ Below w.heap.size w wr) (fun i _ => n2 - (intOf i).toNat)
      case atStart => exact ⟨0, Nat.zero_le _, rfl, hM3, hb4⟩
      case round =>
        clear hM3 hb4
        obtain ⟨j, hj, rfl, hM, hb⟩ := hrel
        have LB := hb.size
        by_cases hlt2 : j < n2
        · obtain ⟨x, rfl, hx⟩ := h2.at_ hlt2 hb
          obtain ⟨f0, f1'⟩ := HF2.out j hlt2
          rcases mod3 (f2 j) f0 with (hc | hc) | hc
          · have t0 : (f2 j % 3 == 0) = true := by simp [hc]
            clear hc
            go_wp2_with fail
            refine (valAt a' m d g _ _ w h' hb (by omega) (by omega) (by omega)).mono ?_
            rintro e w5 ⟨⟨r, rfl⟩, rfl⟩
            go_wp2_with fail
            refine (hM.of_push r (by omega) LB).mono ?_
            rintro e w5 ⟨rfl, hM5, hb5⟩
            go_wp2_with fail
            go_roundw
            case rel => exact ⟨j + 1, by omega, by go_num, hM5, hb.trans hb5⟩
            case measure => simp [intOf]; omega
          · have t0 : (f2 j % 3 == 0) = false := by simp [hc]
            have t1 : (f2 j % 3 == 1) = true := by simp [hc]
            clear hc
            obtain ⟨r, he, hp⟩ := hM.of_empty
            have HP := Lib.hid hp
            clear hp
            have hM' : Mid wr w.heap.size w.heap.size w1.heap.size k (k + (j + 1)) i3 l3 xs := by
              obtain ⟨da, ia, la, va, db, ib, lb, vb, q1, q2, q3, q4, q5, q6, q7, q8, q9⟩ := hM
              exact ⟨da, ia, la, va, db, ib, lb, vb, q1, q2, q3, q4, q5, q6, q7, by omega, q9⟩
            go_wp2_with fail
            refine he.mono ?_
            rintro e w5 ⟨rfl, rfl⟩
            cases r
            · go_wp2_with fail
              refine (HP.out (by first | rfl | trivial) (by omega) LB).mono ?_
              rintro e w6 ⟨⟨y, rfl⟩, hM6, hb6⟩
              have hM6' : Mid w6 w.heap.size w.heap.size w1.heap.size k (k + (j + 1)) i3 l3 xs := by
                obtain ⟨da, ia, la, va, db, ib, lb, vb, q1, q2, q3, q4, q5, q6, q7, q8, q9⟩ := hM6
                exact ⟨da, ia, la, va, db, ib, lb, vb, q1, q2, q3, q4, q5, q6, q7, by omega, q9⟩
              go_wp2_with fail
              go_roundw
              case rel => exact ⟨j + 1, by omega, by go_num, hM6', hb.trans hb6⟩
              case measure => simp [intOf]; omega
            · go_wp2_with fail
              go_roundw
              case rel => exact ⟨j + 1, by omega, by go_num, hM', hb⟩
              case measure => simp [intOf]; omega
          · have t0 : (f2 j % 3 == 0) = false := by simp [hc]
            have t1 : (f2 j % 3 == 1) = false := by simp [hc]
            have t2 : (f2 j % 3 == 2) = true := by simp [hc]
            clear hc
            go_wp2_with fail
            refine (hM.of_save (by omega) LB).mono ?_
            rintro e w5 ⟨⟨i5, l5, rfl⟩, hM5, hb5⟩
            have hM' : Mid w5 w.heap.size w.heap.size w1.heap.size k (k + (j + 1)) i3 l3 xs := by
              obtain ⟨da, ia, la, va, db, ib, lb, vb, q1, q2, q3, q4, q5, q6, q7, q8, q9⟩ := hM5
              exact ⟨da, ia, la, va, db, ib, lb, vb, q1, q2, q3, q4, q5, q6, q7, by omega, q9⟩
            go_wp2_with fail
            go_roundw
            case rel => exact ⟨j + 1, by omega, by go_num, hM', hb.trans hb5⟩
            case measure => simp [intOf]; omega
        · go_wp2_with fail
          refine (hM.of_restore (by omega) LB).mono ?_
          rintro e w5 ⟨rfl, hT5, hb5⟩
          have hb6 := hb.trans hb5
          clear hM hb hb5
          go_wp2_with fail
          go_loopw [15] (fun i wr => ∃ t : Nat, t ≤ n3 ∧ i = .int .i64 t ∧ (∃ ys, Twin wr w.heap.size w.heap.size w1.heap.size (k + j + t) ys ∧ ys.length ≤ n1 + t) ∧ Below w.heap.size w wr) (fun i _ => n3 - (intOf i).toNat)
          case atStart => exact ⟨0, Nat.zero_le _, rfl, ⟨_, hT5, by omega⟩, hb6⟩
          case round =>
            clear hT5 hb6
            obtain ⟨t, ht, rfl, ⟨ys, hT, hys⟩, hb⟩ := hrel
            have LB := hb.size
            by_cases hlt3 : t < n3
            · obtain ⟨x, rfl, hx⟩ := h3.at_ hlt3 hb
              obtain ⟨f0, f1'⟩ := HF3.out t hlt3
              cases t0 : (f3 t % 3 == 2)
              · go_wp2_with fail
                have hT1 : Twin wr.drew w.heap.size w.heap.size w1.heap.size (k + j + t) ys := hT
                have LB1 : w.heap.size ≤ wr.drew.heap.size := LB
                have i0 : 0 ≤ (t : Int) + 1 := by omega
                have i1 : (t : Int) + 1 ≤ 4194304 := by omega
                have hNk : k + j + t ≤ 2097152 := by omega
                have hm0 : m ≤ 1048576 := by omega
                have hwr : IntKind.i64.wrap ((t : Int) + 1) = (t : Int) + 1 := IntWalk.i64_in _ (by omega)
                go_region_with (first | (go_at_call 11; refine (valAt a' m d g _ wr.drew w h' hb.drew hm0 i0 i1).mono ?_; rintro e w7 ⟨⟨r, rfl⟩, rfl⟩) | (go_at_call 10; refine (twin_op wr.drew _ _ _ (k + j + t) ys _ _ hT1 hNk LB1 f0 f1' t0).mono ?_; rintro e w7 ⟨rfl, ⟨zs, hT7, hy7⟩, hb7⟩))
                all_goals
                  clear hwr i0 i1 hNk hm0 hT1 LB1
                  go_wp2_with fail
                  go_roundw
                  case rel => exact ⟨t + 1, by omega, by go_num, ⟨_, hT7, by omega⟩, hb.drew.trans hb7⟩
                  case measure => simp [intOf]; omega
              · go_wp2_with fail
                refine (twin_save2 _ _ _ _ _ _ hT LB).mono ?_
                rintro e w7 ⟨⟨i7, l7, rfl⟩, hT7, hb7⟩
                go_wp2_with fail
                go_roundw
                case rel => exact ⟨t + 1, by omega, by go_num, ⟨_, hT7.more (by omega), by omega⟩, hb.trans hb7⟩
                case measure => simp [intOf]; omega
            · go_wp2_with fail
              refine (drain _ _ _ _ (k + j + t) (n1 + n3) _ (by omega) ys hT (by omega) (by omega) (by omega) LB).mono ?_
              rintro e w7 ⟨rfl, hb7⟩
              go_wp2_with fail
              go_ret
              exact ⟨rfl, hb.trans hb7⟩
end Go.Proofs.Yteoaillidaglbaa
