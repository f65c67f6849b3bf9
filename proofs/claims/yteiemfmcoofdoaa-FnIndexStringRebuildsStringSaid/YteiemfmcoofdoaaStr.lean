/- indexString and ZZindexString: the rune at the named place, as a string. Conditions: at most 2^20 bytes. -/
import Derived.Test.YteiemfmcoofdoaaInts
import Derived.Laws.IdiomStrings
import Derived.Laws.RangeAny
import Derived.Laws.Runes
import Derived.Lib.OthersKept
set_option linter.unusedVariables false
namespace Go.Proofs.Yteiemfmcoofdoaa
open Go.RowKit

/-- Where the k-th rune behind place i begins. -/
def posFrom (s : ByteArray) : Nat → Nat → Nat
  | i, 0 => i
  | i, k + 1 => posFrom s (i + (Utf8.decode s i).2) k
def runeAt (s : ByteArray) (k : Nat) : Nat := (Utf8.decode s (posFrom s 0 k)).1
/-- The number of runes. -/
def nr (s : ByteArray) : Nat := (Conv.runesFrom s s.size 0 #[]).size

theorem posFrom_succ (s : ByteArray) : ∀ (k i : Nat), posFrom s i (k + 1) = posFrom s i k + (Utf8.decode s (posFrom s i k)).2
  | 0, i => rfl
  | k + 1, i => posFrom_succ s k (i + (Utf8.decode s i).2)
theorem runesFrom_at (s : ByteArray) : ∀ (b i : Nat) (acc : Array Value), acc.size ≤ (Conv.runesFrom s b i acc).size ∧ (∀ j, j < acc.size → (Conv.runesFrom s b i acc)[j]? = acc[j]?) ∧
    ∀ k, acc.size + k < (Conv.runesFrom s b i acc).size → posFrom s i k < s.size ∧ (Conv.runesFrom s b i acc)[acc.size + k]? = some (.int .i32 ((Utf8.decode s (posFrom s i k)).1 : Int))
  | 0, i, acc => ⟨Nat.le_refl _, fun _ _ => rfl, fun k hk => by simp [Conv.runesFrom] at hk; omega⟩
  | b + 1, i, acc => by
    by_cases h : i < s.size
    · have e : Conv.runesFrom s (b + 1) i acc = Conv.runesFrom s b (i + (Utf8.decode s i).2) (acc.push (.int .i32 (Int.ofNat (Utf8.decode s i).1))) := by
        conv => lhs; unfold Conv.runesFrom
        rw [if_pos h]
      obtain ⟨h1, h2, h3⟩ := runesFrom_at s b (i + (Utf8.decode s i).2) (acc.push (.int .i32 (Int.ofNat (Utf8.decode s i).1)))
      rw [e]
      rw [Array.size_push] at h1 h2 h3
      refine ⟨by omega, fun j hj => ?_, fun k hk => ?_⟩
      · rw [h2 j (by omega), Array.getElem?_push, if_neg (by omega)]
      · match k, hk with
        | 0, hk =>
          refine ⟨h, ?_⟩
          rw [Nat.add_zero, h2 acc.size (by omega), Array.getElem?_push, if_pos rfl]
          rfl
        | k + 1, hk =>
          obtain ⟨g1, g2⟩ := h3 k (by omega)
          refine ⟨g1, ?_⟩
          rw [show acc.size + (k + 1) = acc.size + 1 + k by omega]
          exact g2
    · have e : Conv.runesFrom s (b + 1) i acc = acc := by
        conv => lhs; unfold Conv.runesFrom
        rw [if_neg h]
      rw [e]
      exact ⟨Nat.le_refl _, fun _ _ => rfl, fun k hk => by omega⟩
theorem rune_is (s : ByteArray) {k : Nat} (hk : k < nr s) : posFrom s 0 k < s.size ∧ (Conv.runesFrom s s.size 0 #[])[k]? = some (.int .i32 (runeAt s k : Int)) := by
  have h := (runesFrom_at s s.size 0 #[]).2.2 k (by simpa [nr] using hk)
  simpa [runeAt] using h
theorem nr_le (s : ByteArray) : nr s ≤ s.size := by
  have := size_runesFrom s s.size 0 #[]
  simpa [nr] using this

/-- []rune(s), in whatever world: a row of its own that begins with the runes. -/
theorem runes_run (s : ByteArray) (hs : s.size ≤ 1048576) (W : World) : ∃ c cs, nr s ≤ c ∧ (∀ k, k < nr s → (cs : Array Value)[k]? = some (.int .i32 (runeAt s k : Int))) ∧
    (convert 9 23 (.string s)).run Try.prog W = .ok (.slice (some ⟨W.heap.size, 0, none⟩) (nr s) c) (W.drew.alloc (.cells cs 21)) := by
  have h1 := nr_le s
  have h2 : nr s ≤ 70368744177664 := by omega
  refine ⟨_, _, grownCap_ge W (nr s) 0 21, fun k hk => ?_, run_runes_of_string W 9 23 21 s Try.underlying9 Try.underlying23 Try.underlying21 h2⟩
  rw [Array.getElem?_append_left hk]
  exact (rune_is s hk).2

set_option maxRecDepth 100000 in
theorem indexString_in (s : ByteArray) (k : Nat) (i : Int) (w : World) (hs : s.size ≤ 1048576) (h : Names (nr s) i k) (i0 : -9223372036854775808 ≤ i) (i1 : i ≤ 9223372036854775807) :
    Calls Try.prog 21 #[.string s, .int .i64 i] w fun e w' => e = .returned (.iface 9 (.string (Utf8.encode (runeAt s k)))) ∧ Below w.heap.size w w' := by
  have hk := h.1
  have hnl := nr_le s
  obtain ⟨c, cs, hc, hcs, hrun⟩ := runes_run s hs w
  have HCL := Lib.hid (fun W => clamp_in (nr s) k i W (by omega) h i0 i1)
  have HR := Lib.hid (fun j (hj : j < nr s) => (rune_is s hj).1)
  clear hcs h
  have HN := Lib.hid hnl
  clear hnl
  have hns : nr s ≤ 1048576 := by have := HN.out; omega
  generalize nr s = n at *
  go_enter Try.func21, Try.ntmps21
  go_wp2_with fail
  refine (HCL.out _).mono ?_
  rintro e w1 ⟨rfl, rfl⟩
  clear HCL
  go_wp2_with fail
  clear hrun
  go_loopw [1] (fun v wr => ∃ j : Nat, j ≤ k ∧ v = .int .i64 ((k : Int) - j) ∧ Hid (wr.heap[w.heap.size + 1]? = some (.stringIter s (posFrom s 0 j))) ∧ Below w.heap.size w wr) (fun v _ => (intOf v).toNat)
  case atStart =>
    refine ⟨0, Nat.zero_le _, by simp, ?_, ?_⟩
    · have h := World.iter_heap (w.alloc (.cells cs 21)).drew s 0
      have e : (w.alloc (.cells cs 21)).drew.heap.size = w.heap.size + 1 := by simp
      rw [e] at h
      exact h
    · exact ((Below.refl _ w).alloc (Nat.le_refl _) _).drew.alloc (by simp) _
  case round =>
    obtain ⟨j, hj, rfl, hh, hb⟩ := hrel
    have hpos := HR.out j (by omega)
    have hnx := Lib.run_next_any_at (P := Try.prog) wr (w.heap.size + 1) s (posFrom s 0 j) 0 hh.out hpos
    have HP := Lib.hid hpos
    clear hpos
    by_cases hjk : j = k
    · subst hjk
      have t0 : ((j : Int) - j - 1 < 0) := by omega
      go_wp2_with fail
      go_ret
      exact ⟨rfl, Lib.below_iterAt hb (by omega) _ _⟩
    · have t0 : ¬ ((k : Int) - j - 1 < 0) := by omega
      have hne : w.heap.size + 1 < wr.heap.size := by
        rcases Nat.lt_or_ge (w.heap.size + 1) wr.heap.size with h | h
        · exact h
        · have := hh.out; rw [Array.getElem?_eq_none h] at this; cases this
      go_wp2_with fail
      go_roundw
      case rel =>
        refine ⟨j + 1, by omega, by go_num, ?_, Lib.below_iterAt hb (by omega) _ _⟩
        have h := Lib.iterAt_heap wr (w.heap.size + 1) s (posFrom s 0 j) (posFrom s 0 j + (Utf8.decode s (posFrom s 0 j)).2) hh.out
        show _ = some (Obj.stringIter s (posFrom s 0 (j + 1)))
        rw [posFrom_succ]
        exact h
      case measure => simp [intOf]; omega

set_option maxRecDepth 100000 in
theorem indexString_out (s : ByteArray) (i : Int) (w : World) (hs : s.size ≤ 1048576) (h : NoPlace (nr s) i) (i0 : -9223372036854775808 ≤ i) (i1 : i ≤ 9223372036854775807) :
    Calls Try.prog 21 #[.string s, .int .i64 i] w fun e w' => e = .returned .nilIface ∧ Below w.heap.size w w' := by
  have hnl := nr_le s
  obtain ⟨c, cs, hc, hcs, hrun⟩ := runes_run s hs w
  have HCL := Lib.hid (fun W => clamp_out (nr s) i W (by omega) h i0 i1)
  clear hcs h
  have hns : nr s ≤ 1048576 := by omega
  clear hnl
  generalize nr s = n at *
  go_enter Try.func21, Try.ntmps21
  go_wp2_with fail
  refine (HCL.out _).mono ?_
  rintro e w1 ⟨rfl | rfl, rfl⟩
  all_goals
    clear HCL
    go_wp2_with fail
    go_ret
    exact ⟨rfl, ((Below.refl _ w).alloc (Nat.le_refl _) _).drew⟩

/-- What ZZindexString answers. -/
def FoundS (s : ByteArray) (i : Int) (e : Ending) : Prop :=
  (∃ k, Names (nr s) i k ∧ e = .returned (.tuple #[.string (Utf8.encode (runeAt s k)), .bool true])) ∨ (NoPlace (nr s) i ∧ e = .returned (.tuple #[.string ByteArray.empty, .bool false]))
theorem zzIndexString (s : ByteArray) (i : Int) (w : World) (hs : s.size ≤ 1048576) (i0 : -9223372036854775808 ≤ i) (i1 : i ≤ 9223372036854775807) :
    Calls Try.prog 9 #[.string s, .int .i64 i] w fun e w' => FoundS s i e ∧ Below w.heap.size w w' := by
  rcases names_or (nr s) i with ⟨k, hN⟩ | hN
  · have HC := Lib.hid (indexString_in s k i w hs hN i0 i1)
    have HN := Lib.hid hN
    clear hN
    go_enter Try.func9, Try.ntmps9
    go_wp2_with fail
    refine HC.out.mono ?_
    rintro e w1 ⟨rfl, hb⟩
    go_wp2_with fail
    go_ret2
    exact ⟨Or.inl ⟨k, HN.out, rfl⟩, hb⟩
  · have HC := Lib.hid (indexString_out s i w hs hN i0 i1)
    have HN := Lib.hid hN
    clear hN
    go_enter Try.func9, Try.ntmps9
    go_wp2_with fail
    refine HC.out.mono ?_
    rintro e w1 ⟨rfl, hb⟩
    go_wp2_with fail
    go_ret2
    exact ⟨Or.inr ⟨HN.out, rfl⟩, hb⟩
end Go.Proofs.Yteiemfmcoofdoaa
