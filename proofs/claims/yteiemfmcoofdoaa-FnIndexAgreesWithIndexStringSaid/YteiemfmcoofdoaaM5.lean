/- The walk of FnIndexAgreesWithIndexString. -/
import Derived.Test.YteiemfmcoofdoaaM3
set_option linter.unusedVariables false
namespace Go.Proofs.Yteiemfmcoofdoaa
open Go.RowKit

theorem zzb13 (s : ByteArray) (i : Int) (w : World) (h : s.size ≤ 1048576) : Calls Try.prog 13 #[.string s, .int .i64 i] w fun e w' => e = .returned (.bool true) ∧ w = w' := by
  go_enter Try.func13, Try.ntmps13
  go_wp2
  go_ret
  exact ⟨rfl, rfl⟩
theorem rune_bd (s : ByteArray) (k : Nat) : (runeAt s k : Int) ≤ 2147483647 := by
  have := decode_le s (posFrom s 0 k)
  unfold runeAt
  omega

set_option maxRecDepth 100000 in
theorem law5_main (s : ByteArray) (i : Int) (w : World) (hs : s.size ≤ 1048576) (i0 : -9223372036854775808 ≤ i) (i1 : i ≤ 9223372036854775807) :
    Calls Try.prog 5 #[.string s, .int .i64 i] w fun e w' => e = .returned (.bool true) ∧ Below w.heap.size w w' := by
  have hnl := nr_le s
  obtain ⟨c, cs, hc, hcs, hrun⟩ := runes_run s hs w
  have HS := Lib.hid hcs
  clear hcs
  have hns : nr s ≤ 1048576 := by omega
  clear hnl
  have hmk := run_make_row' (P := Try.prog) 27 3 (.int .i64 0) 8 Try.underlying27 Try.info3 rfl .i64 .i64 (nr s) (by omega) (by omega)
  have HBD := Lib.hid (rune_bd s)
  have HZI := Lib.hid (fun W => zzIndexString s i W hs i0 i1)
  unfold FoundS at HZI
  generalize hR : runeAt s = R at HS HBD HZI
  generalize nr s = n at *
  clear hR
  go_enter Try.func5, Try.ntmps5
  go_wp2_with fail
  refine (zzb13 s i w hs).mono ?_
  rintro e w1 ⟨rfl, rfl⟩
  go_wp2_with fail
  clear hrun
  go_loopw [7] (fun j wr => ∃ k : Nat, k ≤ n ∧ j = .int .i64 k ∧ wr.rowIs (w.heap.size + 1) 3 n (fun j => .int .i64 (if j < k then (R j : Int) else 0)) ∧ Below (w.heap.size + 1) (w.alloc (.cells cs 21)).drew wr) (fun j _ => n - (intOf j).toNat)
  case atStart =>
    refine ⟨0, Nat.zero_le _, rfl, ?_, ?_⟩
    · have h := World.rowIs_made (w.alloc (.cells cs 21)).drew (.int .i64 0) n 3
      have e : (w.alloc (.cells cs 21)).drew.heap.size = w.heap.size + 1 := by simp
      rw [e] at h
      exact h.congr (fun j _ => by simp)
    · exact (Below.refl _ _).alloc (by simp) _
  case round =>
    clear hmk
    obtain ⟨k, hk, rfl, hrow, hb⟩ := hrel
    by_cases hlt : k < n
    · have hcell : wr.cell? ⟨w.heap.size, k, none⟩ = some (.int .i32 (R k : Int)) := by
        rw [hb.cell (p := ⟨w.heap.size, k, none⟩) (by simp)]
        simp [HS.out k hlt]
      have hbd := HBD.out k
      have hd := hrow.cell hlt
      have hf := hrow.frozen k
      go_wp2_with fail
      go_roundw
      case rel =>
        refine ⟨k + 1, by omega, by go_num, (hrow.set k (.int .i64 (R k : Int))).congr (fun j hj => ?_), hb.setCell (p := ⟨w.heap.size + 1, k, none⟩) (Nat.le_refl _) _⟩
        by_cases e : j = k
        · subst e; simp
        · rw [if_neg e]; congr 1; by_cases e2 : j < k
          · rw [if_pos e2, if_pos (by omega)]
          · rw [if_neg e2, if_neg (by omega)]
      case measure => simp [intOf]; omega
    · obtain rfl : n = k := by omega
      have hr : wr.rowIs (w.heap.size + 1) 3 n (fun j => .int .i64 (R j : Int)) := hrow.congr (fun j hj => by rw [if_pos hj])
      clear hrow
      have B1 : Below w.heap.size w wr := ((Below.refl _ w).alloc (Nat.le_refl _) _).drew.trans (hb.mono (by omega))
      have LB := B1.size
      clear hb
      go_wp2_with fail
      refine (indexInts (some ⟨w.heap.size + 1, 0, none⟩) n n (fun j => (R j : Int)) i wr (by omega) i0 i1 (Or.inr ⟨_, rfl, fun j hj => by rw [Go.WideShapes.add_plain, Nat.zero_add]; exact hr.cell hj⟩)).mono ?_
      rintro e w2 ⟨hF, hb2⟩
      have B2 : Below w.heap.size w w2 := B1.trans (hb2.mono LB)
      have L2 := B2.size
      rcases hF with ⟨k, hN, rfl⟩ | ⟨hN, rfl⟩
      · have HN := Lib.hid hN
        clear hN
        go_wp2_with fail
        refine (HZI.out _).mono ?_
        rintro e w3 ⟨⟨k', hN', rfl⟩ | ⟨hN', rfl⟩, hb3⟩
        · obtain rfl := names_inj HN.out hN'
          clear hN'
          have hbd := HBD.out k
          go_wp2_with fail
          go_ret
          exact ⟨rfl, B2.trans (hb3.mono L2)⟩
        · exact (names_no HN.out hN').elim
      · have HN := Lib.hid hN
        clear hN
        go_wp2_with fail
        refine (HZI.out _).mono ?_
        rintro e w3 ⟨⟨k', hN', rfl⟩ | ⟨hN', rfl⟩, hb3⟩
        · exact (names_no hN' HN.out).elim
        · clear hN'
          go_wp2_with fail
          go_ret
          exact ⟨rfl, B2.trans (hb3.mono L2)⟩

theorem law5 (s : ByteArray) (i : Int) (w : World) (hs : s.size ≤ 9223372036854775807) (i0 : -9223372036854775808 ≤ i) (i1 : i ≤ 9223372036854775807) :
    Calls Try.prog 5 #[.string s, .int .i64 i] w fun e w' => e = .returned (.bool true) ∧ Below w.heap.size w w' := by
  by_cases h1 : 1048576 < s.size
  · go_enter Try.func5, Try.ntmps5
    go_wp2
    all_goals
      go_ret
      exact ⟨rfl, Below.refl _ _⟩
  exact law5_main s i w (by omega) i0 i1
end Go.Proofs.Yteiemfmcoofdoaa
