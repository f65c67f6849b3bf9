/- The walk of FnIndexFindsNearestScopeWithId. -/
import Derived.Test.YteiemfmcoofdoaaSi
set_option linter.unusedVariables false
namespace Go.Proofs.Yteiemfmcoofdoaa
open Go.RowKit

theorem w64_is (z : Int) : wrap64 z = IntKind.i64.wrap z := by rw [IntKind.wrap_i64]; unfold wrap64; omega
theorem zzb14 (a : Option Addr) (n c : Nat) (i j : Int) (w : World) (h : n ≤ 1048576) : Calls Try.prog 14 #[.slice a n c, .int .i64 i, .int .i64 j] w fun e w' => e = .returned (.bool true) ∧ w = w' := by
  go_enter Try.func14, Try.ntmps14
  go_wp2
  go_ret
  exact ⟨rfl, rfl⟩
theorem last_nil (a : Option Addr) (x : Int) (w : World) :
    Calls Try.prog 16 #[.slice a 0 0, .int .i64 x] w fun e w' => e = .returned (.int .i64 (-1)) ∧ w = w' := by
  go_enter Try.func16, Try.ntmps16
  go_wp2_with fail
  go_loopw [6, 7] (fun r j wr => r = .int .i64 (-1) ∧ j = .int .i64 0 ∧ w = wr) (fun _ _ _ => 0)
  case atStart => exact ⟨rfl, rfl, rfl⟩
  case round =>
    obtain ⟨rfl, rfl, rfl⟩ := hrel
    go_wp2_with fail
    go_ret
    exact ⟨rfl, rfl⟩

set_option maxHeartbeats 2000000 in
set_option maxRecDepth 100000 in
theorem law6_main (a : Option Addr) (n c : Nat) (F : Nat → Int) (x y : Int) (w : World) (hn : n ≤ 4096) (h : (a = none ∧ n = 0 ∧ c = 0) ∨ ∃ x, a = some x ∧ ∀ j, j < n → w.cell? (x.add j) = some (.int .i64 (F j))) :
    Calls Try.prog 6 #[.slice a n c, .int .i64 x, .int .i64 y] w fun e w' => e = .returned (.bool true) ∧ Below w.heap.size w w' := by
  have HCL := Lib.hid (clone_any a n c F w (by omega) h)
  clear h
  go_enter Try.func6, Try.ntmps6
  go_wp2_with fail
  refine (zzb14 a n c x y w (by omega)).mono ?_
  rintro e w1 ⟨rfl, rfl⟩
  have hm : ¬ (1048576 < (n : Int) * 8) := by omega
  go_wp2_with fail
  clear hm
  refine HCL.out.mono ?_
  rintro e w1 ⟨⟨rfl, a', rfl⟩ | ⟨rfl, hrow⟩, hb1⟩
  · go_wp2_with fail
    refine (last_nil a' x w1).mono ?_
    rintro e w2 ⟨rfl, rfl⟩
    go_wp2_with fail
    go_ret
    exact ⟨rfl, hb1⟩
  · have HROW := Lib.hid hrow
    have HL := Lib.hid (last_row w.heap.size n F x w1 hn hrow)
    have hwl : w.heap.size < w1.heap.size := by obtain ⟨cur, hc, _⟩ := hrow; exact lt_of_heap hc
    clear hrow HCL
    generalize hh : n / 2 = h at HL
    have hh2 : 2 * h ≤ n := by omega
    have hq : ((n : Int).tdiv 2) = (h : Int) := by subst hh; rfl
    clear hh
    go_wp2_with fail
    refine HL.out.mono ?_
    rintro e w2 ⟨⟨r, rfl, hLast⟩, rfl⟩
    clear HL
    rcases hLast with ⟨rfl, _⟩ | ⟨k, hk, rfl, hfk, hne⟩
    · go_wp2_with fail
      go_ret
      exact ⟨rfl, hb1⟩
    · have HFK := Lib.hid hfk
      have HNE := Lib.hid hne
      clear hfk hne
      go_wp2_with fail
      clear hq
      refine (new_env (fun m => F (2 * m)) (fun m => F (2 * m + 1)) w1).mono ?_
      rintro e w3 ⟨rfl, hE, hS, hb3, hs3⟩
      have HE := Lib.hid hE
      have HS := Lib.hid hS
      have HS3 := Lib.hid hs3
      clear hE hS hs3
      go_wp2_with fail
      go_loopw [10] (fun i wr => ∃ m : Nat, m ≤ h ∧ i = .int .i64 (m : Int) ∧ (∃ v, Scp wr (w1.heap.size + 4) (w1.heap.size + 2) (fun m => F (2 * m)) (fun m => F (2 * m + 1)) m v) ∧ But (w1.heap.size + 2) (w1.heap.size + 4) w3 wr) (fun i _ => h - (intOf i).toNat)
      case atStart => exact ⟨0, Nat.zero_le _, rfl, ⟨_, HS.out⟩, But.refl _ _ _⟩
      case round =>
        obtain ⟨m, hm, rfl, ⟨v, hS⟩, hB⟩ := hrel
        have HSC := Lib.hid hS
        have HEM := Lib.hid (show EnvAt wr (w1.heap.size + 3) (w1.heap.size + 2) from (World.cell?_of_block (a := ⟨w1.heap.size + 3, 3, none⟩) (hB.block (w1.heap.size + 3) (by omega) (by omega))).trans HE.out)
        have HLS := Lib.hid (show w1.heap.size + 4 ≤ wr.heap.size by have := hB.size; have := HS3.out; omega)
        have HRW := Lib.hid (show wr.rowIs w.heap.size 3 n (fun j => .int .i64 (F j)) by
          obtain ⟨cur, hc, hr⟩ := HROW.out
          exact ⟨cur, ((hB.block w.heap.size (by omega) (by omega)).trans (hb3.block w.heap.size hwl)).trans hc, hr⟩)
        have BW := hB.below (by omega)
        clear hS
        by_cases hlt : m < h
        · have hc0 : wr.cell? ⟨w.heap.size, 2 * m, none⟩ = some (.int .i64 (F (2 * m))) := HRW.out.cell (by omega)
          have hc1 : wr.cell? ⟨w.heap.size, 2 * m + 1, none⟩ = some (.int .i64 (F (2 * m + 1))) := HRW.out.cell (by omega)
          have hbd : 2 * (m : Int) < n := by omega
          have hb0 : 0 ≤ 2 * (m : Int) := by omega
          have ht : (2 * (m : Int)).toNat = 2 * m := by omega
          have hbd1 : 2 * (m : Int) + 1 < n := by omega
          have hb01 : 0 ≤ 2 * (m : Int) + 1 := by omega
          have ht1 : (2 * (m : Int) + 1).toNat = 2 * m + 1 := by omega
          have hw0 : IntKind.i64.wrap (2 * (m : Int)) = 2 * (m : Int) := IntWalk.i64_in _ (by omega)
          have hw1 : IntKind.i64.wrap (2 * (m : Int) + 1) = 2 * (m : Int) + 1 := IntWalk.i64_in _ (by omega)
          have hw2 : IntKind.i64.wrap ((m : Int) - 1) = (m : Int) - 1 := IntWalk.i64_in _ (by omega)
          go_wp2_with fail
          go_region_with (first | (go_at_call 18; refine (push_env wr.drew (w1.heap.size + 4) (w1.heap.size + 2) (w1.heap.size + 3) (fun m => F (2 * m)) (fun m => F (2 * m + 1)) m v (F (2 * m)) (F (2 * m + 1)) ⟨rfl, rfl⟩ HSC.out HEM.out (by omega) (by omega) HLS.out).mono ?_; rintro e w4 ⟨rfl, hv, hB4⟩))
          all_goals
            clear hc0 hc1 hbd hb0 ht hbd1 hb01 ht1 hw0 hw1 hw2
            go_wp2_with fail
            go_roundw
            case rel => exact ⟨m + 1, by omega, by go_num, hv, hB.drew.trans hB4⟩
            case measure => simp [intOf]; omega
        · obtain rfl : h = m := by omega
          have HIX := Lib.hid (show Calls Try.prog 19 #[.pointer (some ⟨w1.heap.size + 3, 0, none⟩), .int .i64 x, .int .i64 y] wr.drew fun e w' => e = .returned (.int .i64 (wrap64 (F (2 * k + 1) + y))) ∧ Below wr.heap.size wr w' from
            (zzindex_env wr.drew _ _ _ (fun m => F (2 * m)) (fun m => F (2 * m + 1)) h k v x y HSC.out HEM.out (by omega) hk HFK.out HNE.out).mono (fun e w' hh => ⟨hh.1, (Below.refl _ wr).drew.trans hh.2⟩))
          have hc1 : wr.cell? ⟨w.heap.size, 2 * k + 1, none⟩ = some (.int .i64 (F (2 * k + 1))) := HRW.out.cell (by omega)
          have HK := Lib.hid hc1
          have hb0 : 0 ≤ 2 * (k : Int) := by omega
          have hbd1 : 2 * (k : Int) + 1 < n := by omega
          have hb01 : 0 ≤ 2 * (k : Int) + 1 := by omega
          have ht1 : (2 * (k : Int) + 1).toNat = 2 * k + 1 := by omega
          have hw0 : IntKind.i64.wrap (2 * (k : Int)) = 2 * (k : Int) := IntWalk.i64_in _ (by omega)
          have hw1 : IntKind.i64.wrap (2 * (k : Int) + 1) = 2 * (k : Int) + 1 := IntWalk.i64_in _ (by omega)
          have hwlr : w.heap.size < wr.heap.size := by have := HLS.out; omega
          go_wp2_with fail
          go_region_with (first | (go_at_call 19; refine HIX.out.mono ?_; rintro e w5 ⟨rfl, hb5⟩; have k1 := (hb5.cell (p := ⟨w.heap.size, 2 * k + 1, none⟩) hwlr).trans HK.out))
          all_goals
            clear hc1 hb0 hbd1 hb01 ht1 hw0 hw1
            go_wp2_with fail
            go_ret
            refine ⟨by simp [Act.put, w64_is], ?_⟩
            have B2 : Below w.heap.size w wr := hb1.trans ((hb3.mono (by omega)).trans (BW.mono (by omega)))
            exact B2.trans (hb5.mono (by omega))

theorem law6 (a : Option Addr) (n c : Nat) (F : Nat → Int) (x y : Int) (w : World) (hn : n ≤ 9223372036854775807) (h : (a = none ∧ n = 0 ∧ c = 0) ∨ ∃ x, a = some x ∧ ∀ j, j < n → w.cell? (x.add j) = some (.int .i64 (F j))) :
    Calls Try.prog 6 #[.slice a n c, .int .i64 x, .int .i64 y] w fun e w' => e = .returned (.bool true) ∧ Below w.heap.size w w' := by
  by_cases h1 : 1048576 < n
  · clear h
    go_enter Try.func6, Try.ntmps6
    go_wp2
    all_goals
      go_ret
      exact ⟨rfl, Below.refl _ _⟩
  by_cases h2 : 4096 < n
  · clear h
    go_enter Try.func6, Try.ntmps6
    go_wp2_with fail
    refine (zzb14 a n c x y w (by omega)).mono ?_
    rintro e w1 ⟨rfl, rfl⟩
    go_wp2_with fail
    go_ret
    exact ⟨rfl, Below.refl _ _⟩
  exact law6_main a n c F x y w (by omega) h
end Go.Proofs.Yteiemfmcoofdoaa
