/- Plain facts on the sorted keys; the walk of FnKeysAreTheSortedDistinctInputKeys: it returns true, whatever the argument. -/
import Derived.Test.YtdigmjmghijkeaaK2
set_option linter.unusedVariables false
namespace Go.Proofs.Ytdigmjmghijkeaa
open Go.RowKit

open Go.Maps Go.Sort
theorem bs_list (R : List (List UInt8)) (j : Nat) : (bs R j).data.toList = R.getD j [] := by simp [bs]
theorem rising_of {D : DataW Unit} {R : List (List UInt8)} (h : KeysAre D R) : Rising R.length (bs R) := by
  intro i j hij hj
  have h1 := List.pairwise_iff_getElem.1 h.2.1 i j (by omega) hj hij
  have h2 := List.pairwise_iff_getElem.1 (List.nodup_iff_pairwise_ne.1 h.1) i j (by omega) hj hij
  rw [bs_list, bs_list]
  have e1 : R.getD i [] = R[i]'(by omega) := by simp [List.getD, show i < R.length by omega]
  have e2 : R.getD j [] = R[j]'hj := by simp [List.getD, hj]
  rw [e1, e2]
  simp only [leB, decide_eq_true_eq] at h1
  by_cases hlt : R[i]'(by omega) < R[j]'hj
  · exact hlt
  · exact absurd (List.le_antisymm h1 (List.not_lt.1 hlt)) h2
theorem bs_ext {R : List (List UInt8)} {j : Nat} {s : ByteArray} (h : R.getD j [] = s.data.toList) : bs R j = s := ByteArray.ext (Array.ext' (by rw [bs_list]; exact h))
theorem key_in {f : Nat → ByteArray} {n : Nat} {R : List (List UInt8)} (h : KeysAre (putD f (fun _ => .nil) n) R) : ∀ i, i < n → ∃ m, m < R.length ∧ bs R m = f i := by
  intro i hi
  have hx : (f i).data.toList ∈ R := (h.2.2 _).2 ((has_putD f _ _ n).2 ⟨i, hi, rfl⟩)
  obtain ⟨m, hm, e⟩ := List.getElem_of_mem hx
  exact ⟨m, hm, bs_ext (by rw [← e]; simp [List.getD, hm])⟩
theorem key_out {f : Nat → ByteArray} {n : Nat} {R : List (List UInt8)} (h : KeysAre (putD f (fun _ => .nil) n) R) : ∀ j, j < R.length → ∃ m, m < n ∧ f m = bs R j := by
  intro j hj
  have hx : R[j] ∈ R := List.getElem_mem hj
  obtain ⟨m, hm, e⟩ := (has_putD f _ _ n).1 ((h.2.2 _).1 hx)
  exact ⟨m, hm, (bs_ext (by rw [e]; simp [List.getD, hj])).symm⟩
theorem key_size {f : Nat → ByteArray} {n : Nat} {R : List (List UInt8)} (h : KeysAre (putD f (fun _ => .nil) n) R) (hz : SzOk f n) : SzOk (bs R) R.length := by
  intro j hj
  obtain ⟨m, hm, e⟩ := key_out h j hj
  rw [← e]; exact hz m hm

set_option maxRecDepth 100000 in
set_option maxHeartbeats 2000000 in
theorem law4 (a : Option Addr) (n c : Nat) (f : Nat → ByteArray) (w : World) (mn : n ≤ 9223372036854775807) (hz : SzOk f n) (h : StrIn w a n c f) :
    Calls Try.prog 4 #[.slice a n c] w fun e w' => e = .returned (.bool true) ∧ Below w.heap.size w w' := by
  have ZB := Lib.hid (zzb4 a n c f w mn hz h)
  have HZ := Lib.hid hz
  clear hz
  go_enter Try.func4, Try.ntmps4
  go_wp2_with fail
  refine ZB.out.mono ?_
  rintro e w1 ⟨⟨r, rfl, hr⟩, rfl⟩
  clear ZB
  cases r
  · go_wp2_with fail
    go_ret
    exact ⟨rfl, Below.refl _ _⟩
  have HR := Lib.hid (hr rfl)
  clear hr
  by_cases hn : n ≤ 4096
  rotate_left
  · have h1 := HR.out
    have h2 : 4096 < n := by omega
    go_wp2_with fail
    go_ret
    exact ⟨rfl, Below.refl _ _⟩
  have hn1 : n ≤ 1048576 := by omega
  go_wp2_with fail
  refine (strBytes a n c f _ HR.out h).mono ?_
  rintro e w1 ⟨⟨t, rfl, t1, t2⟩, rfl⟩
  by_cases ht : t ≤ 1048576
  rotate_left
  · go_wp2_with fail
    go_ret
    exact ⟨rfl, Below.refl _ _⟩
  clear t2 t1
  go_wp2_with fail
  refine (sclone_any a n c f _ hn1 h).mono ?_
  rintro e w1 ⟨⟨a', rfl, kS⟩, b1⟩
  clear h
  have HK := Lib.hid (keysOf_any a' n n f w1 (by omega) HZ.out kS)
  go_wp2_with fail
  refine HK.out.mono ?_
  rintro e w2 ⟨g, R, rfl, hrow, hk, hl, b2⟩
  have RIS := Lib.hid (rising_of hk)
  have IN := Lib.hid (key_in hk)
  have OUT := Lib.hid (key_out hk)
  have HRW := Lib.hid hrow
  have HKS := Lib.hid (kS.below b2)
  have B2 := Lib.hid (b1.trans (b2.mono b1.size))
  clear hk hrow kS b2 b1 HK
  obtain ⟨N, hN⟩ : ∃ N, R.length = N := ⟨_, rfl⟩
  have hN4 : N ≤ 4096 := by omega
  have HNN := Lib.hid hN
  rw [hN] at RIS IN OUT ⊢
  have HST : Hid (StrIn w2 (some ⟨g, 0, none⟩) N N (bs R)) := Lib.hid (by rw [← hN]; exact HRW.out.strIn _)
  have HC : Hid (∀ j, j < N → w2.cell? ⟨g, j, none⟩ = some (.string (bs R j))) := Lib.hid (fun j hj => HRW.out.cell (by omega))
  have HG := Lib.hid HRW.out.lt
  clear hN hl
  go_wp2_with fail
  go_loopw [4] (fun j wr => ∃ k : Nat, 1 ≤ k ∧ j = .int .i64 k ∧ Below w2.heap.size w2 wr) (fun j _ => N - (intOf j).toNat)
  case atStart => exact ⟨1, by omega, rfl, Below.refl _ _⟩
  case round =>
    obtain ⟨k, k1, rfl, hb⟩ := hrel
    by_cases hlt : k < N
    · have hc1 : wr.cell? ⟨g, k - 1, none⟩ = some (.string (bs R (k - 1))) := (hb.cell (p := ⟨g, k - 1, none⟩) HG.out).trans (HC.out (k - 1) (by omega))
      have hc2 : wr.cell? ⟨g, k, none⟩ = some (.string (bs R k)) := (hb.cell (p := ⟨g, k, none⟩) HG.out).trans (HC.out k hlt)
      have hq : Op.bytesLess (bs R (k - 1)).toList (bs R k).toList = true := by rw [less_is]; simpa using RIS.out (k - 1) k (by omega) hlt
      have i0 : (0 : Int) ≤ (k : Int) - 1 := by omega
      have i1 : (k : Int) - 1 < N := by omega
      have it : ((k : Int) - 1).toNat = k - 1 := by omega
      go_wp2_with fail
      go_quiet (fail)
      go_wp2_with fail
      go_roundw
      case rel => exact ⟨k + 1, by omega, by go_num, ⟨hb.os, hb.tape, hb.output, hb.size, hb.block⟩⟩
      case measure => simp [intOf]; omega
    · go_wp2_with fail
      go_loopw [5] (fun i wz => ∃ k : Nat, k ≤ n ∧ i = .int .i64 k ∧ Below w2.heap.size w2 wz) (fun i _ => n - (intOf i).toNat)
      case atStart => exact ⟨0, Nat.zero_le _, rfl, hb⟩
      case round =>
        clear hb hlt k1
        obtain ⟨k, hk, rfl, hb⟩ := hrel
        by_cases hlt : k < n
        · rcases HKS.out.below hb with ⟨_, h0, _⟩ | ⟨x, rfl, hx⟩
          · omega
          have hc := hx k hlt
          obtain ⟨m, hm, em⟩ := IN.out k hlt
          have HH := Lib.hid (has_yes (some ⟨g, 0, none⟩) N N (bs R) (f k) wr (by omega) (HST.out.below hb) RIS.out m hm em)
          clear hx em
          go_wp2_with fail
          refine HH.out.mono ?_
          rintro e w9 ⟨rfl, rfl⟩
          go_wp2_with fail
          go_roundw
          case rel => exact ⟨k + 1, by omega, by go_num, hb⟩
          case measure => simp [intOf]; omega
        · go_wp2_with fail
          go_loopw [6] (fun i wz => ∃ k : Nat, k ≤ N ∧ i = .int .i64 k ∧ Below w2.heap.size w2 wz) (fun i _ => N - (intOf i).toNat)
          case atStart => exact ⟨0, Nat.zero_le _, rfl, hb⟩
          case round =>
            clear hb hlt hk
            obtain ⟨k, hk, rfl, hb⟩ := hrel
            by_cases hlt : k < N
            · have hc2 : wr.cell? ⟨g, k, none⟩ = some (.string (bs R k)) := (hb.cell (p := ⟨g, k, none⟩) HG.out).trans (HC.out k hlt)
              obtain ⟨m, hm, em⟩ := OUT.out k hlt
              have HH := Lib.hid (zzIn_yes a' n n f (bs R k) wr (by omega) (HKS.out.below hb) m hm em)
              clear em
              go_wp2_with fail
              refine HH.out.mono ?_
              rintro e w9 ⟨rfl, rfl⟩
              go_wp2_with fail
              go_roundw
              case rel => exact ⟨k + 1, by omega, by go_num, hb⟩
              case measure => simp [intOf]; omega
            · go_wp2_with fail
              go_ret
              exact ⟨rfl, B2.out.trans (hb.mono B2.out.size)⟩
end Go.Proofs.Ytdigmjmghijkeaa
