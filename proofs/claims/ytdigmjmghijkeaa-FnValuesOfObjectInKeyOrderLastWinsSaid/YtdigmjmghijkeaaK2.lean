/- Maps of strings to nil or ints, made by the call; keys of such a map. Conditions: at most 8192 entries. -/
import Derived.Test.YtdigmjmghijkeaaK1
import Derived.Test.YtdigmjmghijkeaaKS
import Derived.StringKeys
import Derived.MapKept
import Derived.Maps.RangeWalk
import Derived.Maps.OwnOps
import Derived.Maps.OwnSet
import Derived.Maps.Views
import Derived.Sort.KeysCollected
import Derived.Sort.OwnSorted
import Derived.OwnWalk
set_option linter.unusedVariables false
namespace Go.Proofs.Ytdigmjmghijkeaa
open Go.RowKit

open Go.Maps Go.Sort
open Go.Proofs (encStr)

theorem law9 : Keyed Try.prog 9 := string_keyed Try.underlying9
theorem run_makeMap_hint {P : Program} (t k e : TypeId) (ht : P.underlying t = some (.map k e)) (q : IntKind) (n : Int) (w : World) : (Instr.makeMap t (some (.int q n))).run P w = .ok (.map (some w.heap.size)) (w.alloc (.map #[] 0)) := by
  simp [Instr.makeMap, run_underlying ht, asInt, asIntOf, Result.andThen]
theorem zeroE (w : World) : (zeroValue 20).run Try.prog w = .ok .nilIface w := by kernel_rfl
/-- What an element reads as: nil, or an int. -/
def anyR : Value → Option (DataW Unit × List MemPlace)
  | .nilIface => some (.nil, [])
  | .iface 3 (.int .i64 n) => some (.lit (.int .i64 n), [])
  | _ => none
/-- The map's datum after n puts. -/
def putD (f : Nat → ByteArray) (u : Nat → DataW Unit) : Nat → DataW Unit
  | 0 => .map []
  | k + 1 => (putD f u k).put (.string (f k).data.toList) (u k)
def Owns (w : World) (b n : Nat) (D : DataW Unit) : Prop := w.ownsMap Try.prog 9 anyR b n D
theorem keyOf_str9 (s : ByteArray) (h : s.size ≤ 9223372036854775807) : keyOf Try.prog 9 (.string s) = some (.string s.data.toList) := Go.WideMaps.keyOf_string_mk Try.underlying9 (by unfold maxLen; exact h)

set_option maxRecDepth 100000 in
theorem objOf_any (a : Option Addr) (n c : Nat) (f : Nat → ByteArray) (w : World) (hn : n ≤ 8192) (hz : SzOk f n) (h : StrIn w a n c f) :
    Calls Try.prog 26 #[.slice a n c] w fun e w' => e = .returned (.map (some w.heap.size)) ∧ Owns w' w.heap.size n (putD f (fun _ => .nil) n) ∧ Below w.heap.size w w' := by
  have hmm := fun (m : Int) (W : World) => run_makeMap_hint (P := Try.prog) 43 9 20 Try.underlying43 .i64 m W
  have HZ := Lib.hid hz
  clear hz
  go_enter Try.func26, Try.ntmps26
  go_wp2_with fail
  clear hmm
  go_loopw [11] (fun i wr => ∃ k : Nat, k ≤ n ∧ i = .int .i64 k ∧ Owns wr w.heap.size k (putD f (fun _ => .nil) k) ∧ Below w.heap.size w wr) (fun i _ => n - (intOf i).toNat)
  case atStart => exact ⟨0, Nat.zero_le _, rfl, World.ownsMap_made _ _ _ _, (Below.refl _ _).alloc (Nat.le_refl _) _⟩
  case round =>
    obtain ⟨k, hk, rfl, hown, hb⟩ := hrel
    by_cases hlt : k < n
    · rcases h with ⟨_, h0, _⟩ | ⟨x, rfl, hx⟩
      · omega
      have hc : wr.cell? (x.add k) = some (.string (f k)) := (hb.cell (block_lt_of_cell (hx k hlt))).trans (hx k hlt)
      have hkey := keyOf_str9 (f k) (HZ.out k hlt)
      have HX := Lib.hid hx
      have HB := Lib.hid hb
      clear hx hb
      go_wp2_with (at_mapUpdate; go_loud (refine wpList_mapUpdate_own _ rfl _ _ _ 43 rfl 9 20 law9 Try.underlying43 anyR w.heap.size k _ rfl hown (by unfold maxLen; omega) _ _ _ rfl rfl hkey .nil [] rfl ?_))
      intro w1 hown1 hgrow1
      go_wp2_with fail
      go_roundw
      case rel => exact ⟨k + 1, by omega, by go_num, hown1, HB.out.grown hgrow1 HB.out.size (fun j hj => by cases hj; exact Nat.le_refl _)⟩
      case measure => simp [intOf]; omega
    · obtain rfl : n = k := by omega
      go_wp2_with fail
      go_ret
      exact ⟨rfl, hown, hb⟩

/-- The keys of a datum, sorted. -/
def KeysAre (D : DataW Unit) (R : List (List UInt8)) : Prop := R.Nodup ∧ R.Pairwise (fun x y => leB x y = true) ∧ ∀ x, x ∈ R ↔ has D (.string x) = true
def bs (R : List (List UInt8)) (j : Nat) : ByteArray := ⟨(R.getD j []).toArray⟩
def RowL (w : World) (g : Nat) (R : List (List UInt8)) : Prop := w.rowIs g 9 R.length (fun j => .string (bs R j))
theorem RowL.below {w w' : World} {g : Nat} {R : List (List UInt8)} (h : RowL w g R) (hb : Below w.heap.size w w') : RowL w' g R := h.of_block (hb.block _ h.lt)
theorem RowL.strIn {w : World} {g : Nat} {R : List (List UInt8)} (h : RowL w g R) (c : Nat) : StrIn w (some ⟨g, 0, none⟩) R.length c (bs R) :=
  Or.inr ⟨_, rfl, fun j hj => by rw [Go.WideShapes.add_plain, Nat.zero_add]; exact h.cell hj⟩
theorem sorted_row {w : World} {g n : Nat} {os : Array Obj} {R ss : List (List UInt8)} (hl : R.length = ss.length) (h : RowL w g ss) : RowL (grow (putRow encStr (Sort.ahead w n) g 0 R.toArray) os) g R := by
  obtain ⟨cur, hb, hs, _⟩ := h
  refine ⟨_, heap_sorted _ hb, by simp [putCells, hs, hl], fun i hi => ?_⟩
  have h1 : i < cur.size := by omega
  simp [putCells, h1, hi, bs, encStr, List.getD]

def KeysPost (w : World) (D : DataW Unit) (e : Ending) (w' : World) : Prop :=
  ∃ R : List (List UInt8), e = .returned (.slice (some ⟨w.heap.size, 0, none⟩) R.length R.length) ∧ RowL w' w.heap.size R ∧ KeysAre D R ∧ R.length = Maps.size D ∧ Below w.heap.size w w'
theorem setCell_grown (w : World) (p : Addr) (v : Value) : w.grownBy (w.setCell p v) (some p.block) :=
  ⟨rfl, rfl, rfl, by simp [World.setCell], fun i _ hi => Below.heap_setCell w p v i (fun e => hi (by rw [e]))⟩
theorem keys_done {w : World} {b n : Nat} {D : DataW Unit} {left : Lit → Bool} {ss : List (List UInt8)} (hC : Collected D left ss) (hown : Owns w b n D) (hl : ∀ kl, left kl = false) :
    KeysAre D (ss.mergeSort leB) ∧ ss.length = Maps.size D := by
  have hp := hC.perm hown law9 Try.underlying9 hl
  have tr : ∀ a b c : List UInt8, leB a b = true → leB b c = true → leB a c = true := fun a b c h1 h2 => by simp only [leB, decide_eq_true_eq] at *; exact List.le_trans h1 h2
  have to : ∀ a b : List UInt8, (leB a b || leB b a) = true := fun a b => by simp only [leB, Bool.or_eq_true, decide_eq_true_eq]; exact List.le_total a b
  refine ⟨⟨(List.mergeSort_perm ss leB).nodup_iff.2 hC.1, List.pairwise_mergeSort tr to ss, fun x => ?_⟩, ?_⟩
  · rw [(List.mergeSort_perm ss leB).mem_iff, hC.2 x, hl]; simp
  · rw [hp.length_eq]
    obtain ⟨es, rfl, _⟩ := hown.entries law9
    simp [strKeys, Maps.size]
theorem upto2 {ss : List (List UInt8)} {x : List UInt8} {j : Nat} (hj : j ≠ ss.length) : (if j < ss.length then Value.string (bs ss j) else .string ByteArray.empty) = (if j < (ss ++ [x]).length then Value.string (bs (ss ++ [x]) j) else .string ByteArray.empty) := by
  by_cases h : j < ss.length
  · rw [if_pos h, if_pos (by simp; omega)]
    simp [bs, List.getD, List.getElem?_append_left h]
  · rw [if_neg h, if_neg (by simp; omega)]
set_option maxRecDepth 100000 in
set_option maxHeartbeats 1000000 in
theorem keys_any (b n : Nat) (D0 : DataW Unit) (w : World) (hown : Owns w b n D0) (hmax : Maps.size D0 ≤ 8192) :
    Calls Try.prog 25 #[.map (some b)] w (KeysPost w D0) := by
  have hbl := hown.lt
  obtain ⟨N, hN⟩ : ∃ N, Maps.size D0 = N := ⟨_, rfl⟩
  have hN' : N ≤ 8192 := by omega
  have HN := Lib.hid hN
  have hmk := run_make_row' (P := Try.prog) 22 9 (.string ByteArray.empty) 16 Try.underlying22 Try.info9s rfl .i64 .i64 N (by omega) (by omega)
  have HOW := Lib.hid hown
  clear hown hmax
  go_enter Try.func25, Try.ntmps25
  go_wp2_with (first
    | (at_len; refine wpList_len_own _ rfl _ 43 rfl 9 20 Try.underlying43 _ b n _ rfl HOW.out ?_)
    | (at_range; refine wpList_range_own _ rfl _ 43 rfl 9 20 law9 Try.underlying43 anyR b n _ rfl (HOW.out.alloc _) ?_; intro w0 hrg0 hg0 hs0))
  have hsz : (w.alloc (.cells (madeCells #[.string ByteArray.empty] N) 9)).heap.size = w.heap.size + 1 := by simp
  go_frame
  rw [hsz] at hrg0 hs0 ⊢
  clear hmk hs0 hN
  go_loopw [4] (fun i wr => ∃ (left : Lit → Bool) (cnt : Nat) (ss : List (List UInt8)), wr.ranges Try.prog 9 anyR b (w.heap.size + 1) n D0 left cnt ∧ ss.length + cnt ≤ N ∧ i = .int .i64 ss.length ∧
      wr.rowIs w.heap.size 9 N (fun j => if j < ss.length then .string (bs ss j) else .string ByteArray.empty) ∧ Collected D0 left ss ∧ Below w.heap.size w wr)
    (fun _ wr => wr.rangeLeft b (w.heap.size + 1))
  case atStart =>
    refine ⟨_, _, [], hrg0, by rw [HN.out]; simp, rfl, ?_, Collected.start D0, ((Below.refl _ _).alloc (Nat.le_refl _) _).grown hg0 (by simp) (fun j hj => by cases hj)⟩
    exact ((World.rowIs_made w (.string ByteArray.empty) N 9).of_block (hg0.block _ (by simp) (by simp))).congr (fun j _ => by simp)
  case round =>
    clear hrg0 hg0
    obtain ⟨left, cnt, ss, hrg, hcs, rfl, hrow, hC, hb⟩ := hrel
    have HROW := Lib.hid hrow
    have HC := Lib.hid hC
    have HB := Lib.hid hb
    have HZ := Lib.hid hb.size
    clear hrow hC hb
    go_wp2_with (at_next; refine wpList_next_ranges _ rfl _ rfl 9 law9 anyR encStr (fun v : Value => v) (fun key kl hk => by obtain ⟨x, hx, _⟩ := Maps.keyOf_str Try.underlying9 hk; exact ⟨x, hx⟩) (fun v y hv => ⟨v, rfl⟩) b (w.heap.size + 1) n _ _ _ rfl hrg ?_ ?_)
    · intro hc0 hl0
      obtain ⟨hK, hlen⟩ := keys_done HC.out HOW.out hl0
      have hlen' : ss.length = N := hlen.trans HN.out
      have hR : RowL wr w.heap.size ss := by
        have := HROW.out
        rw [← hlen'] at this
        exact this.congr (fun j hj => by rw [if_pos hj])
      obtain ⟨cur, hbk, hcs2, hcc⟩ := hR
      have hH : Holds encStr wr w.heap.size 0 ss.toArray := holds_of_block hbk (by
        apply List.ext_getElem?
        intro j
        by_cases hj : j < ss.length
        · rw [List.getElem?_take_of_lt hj, Array.getElem?_toList, hcc j hj]
          simp [bs, encStr, List.getD, hj]
        · rw [List.getElem?_take_eq_none (by omega), List.getElem?_eq_none (by simp; omega)])
      have hgl : w.heap.size < wr.heap.size := (Array.getElem?_eq_some_iff.1 hbk).1
      have hc := Try.sort_Strings w.heap.size 0 ss.length ss wr hH hgl (by omega)
      have HCC := Lib.hid hc
      have HK := Lib.hid hK
      have HBK : Hid (RowL wr w.heap.size ss) := Lib.hid ⟨cur, hbk, hcs2, hcc⟩
      have HL := Lib.hid hlen
      clear hH hc hK hbk hcs2 hcc hlen hcs hrg HC HROW
      obtain rfl := hlen'
      go_wp2_with fail
      refine HCC.out.mono ?_
      rintro e w' ⟨rfl, nn, os, rfl⟩
      go_wp2_with fail
      go_ret
      have hl : (ss.mergeSort leB).length = ss.length := (List.mergeSort_perm ss leB).length_eq
      refine ⟨ss.mergeSort leB, by rw [hl]; rfl, sorted_row hl HBK.out, HK.out, by rw [hl]; exact HL.out, HB.out.grown (grownBy_sorted _) HZ.out (fun j hj => by cases hj; exact Nat.le_refl _)⟩
    · intro x c kl yd yp w2 cnt2 hkey hlk hv hat hrg2 hlt hg2 hs2 hen
      obtain ⟨x', ex, rfl, _⟩ := Maps.keyOf_str Try.underlying9 hkey
      obtain rfl : x = x' := encStr_inj ex
      have hgr := HROW.out.lt
      have hrow2 := HROW.out.of_block (hg2.block _ hgr (by simp))
      have hlt2 : ss.length < N := by omega
      have hd := hrow2.cell hlt2
      have hf := hrow2.frozen ss.length
      rw [if_neg (by omega)] at hd
      have HR2 := Lib.hid hrow2
      have HRG2 := Lib.hid hrg2
      have HLT := Lib.hid hlt
      have HG2 := Lib.hid hg2
      clear hs2 hrow2 hrg2 hlt hg2
      go_wp2_with fail
      go_roundw
      case rel =>
        have hrg3 := HRG2.out.kept (setCell_grown w2 ⟨w.heap.size, ss.length, none⟩ (encStr x)) (by simp; omega) (by simp)
        refine ⟨_, cnt2, ss ++ [x], hrg3, by have := HLT.out; simp; omega, by simp, ?_, HC.out.step hlk hat, ?_⟩
        · refine (HR2.out.set ss.length (encStr x)).congr (fun j hj => ?_)
          by_cases e : j = ss.length
          · subst e; simp [bs, encStr, List.getD]
          · rw [if_neg e]; exact upto2 e
        · exact (HB.out.grown HG2.out HZ.out (fun j hj => by cases hj; exact Nat.le_succ _)).setCell (p := ⟨w.heap.size, ss.length, none⟩) (Nat.le_refl _) _
      case measure =>
        have hrg3 := HRG2.out.kept (setCell_grown w2 ⟨w.heap.size, ss.length, none⟩ (encStr x)) (by simp; omega) (by simp)
        rw [hrg3.left_eq, hrg.left_eq]; exact HLT.out

/-- Which keys are there. -/
theorem strKey (x : List UInt8) : WideAt.IsKeyLit (.string x) := trivial
theorem isMap_putD (f : Nat → ByteArray) (u : Nat → DataW Unit) : ∀ n, IsMap (putD f u n)
  | 0 => isMap_empty
  | k + 1 => (isMap_putD f u k).put _ _
theorem has_putD (f : Nat → ByteArray) (u : Nat → DataW Unit) (x : List UInt8) : ∀ n, has (putD f u n) (.string x) = true ↔ ∃ j, j < n ∧ (f j).data.toList = x
  | 0 => by simp [putD, has]
  | k + 1 => by
    have ih := has_putD f u x k
    by_cases e : x = (f k).data.toList
    · subst e
      rw [putD, has_put_same (isMap_putD f u k) (strKey _)]
      simp only [true_iff]
      exact ⟨k, by omega, rfl⟩
    · rw [putD, has_put_other (by simpa using e), ih]
      constructor
      · rintro ⟨j, h1, h2⟩; exact ⟨j, by omega, h2⟩
      · rintro ⟨j, h1, h2⟩
        refine ⟨j, ?_, h2⟩
        rcases Nat.lt_or_ge j k with h | h
        · exact h
        · exfalso
          obtain rfl : j = k := by omega
          exact e h2.symm
/-- The sorted keys are the one rising list of them. -/
theorem keys_unique {D1 D2 : DataW Unit} {R1 R2 : List (List UInt8)} (h1 : KeysAre D1 R1) (h2 : KeysAre D2 R2) (h : ∀ x, has D1 (.string x) = true ↔ has D2 (.string x) = true) : R1 = R2 := by
  have hp : R1.Perm R2 := (List.perm_ext_iff_of_nodup h1.1 h2.1).2 fun x => by rw [h1.2.2 x, h2.2.2 x, h x]
  refine List.Perm.eq_of_pairwise (le := fun a b => leB a b = true) (fun a b _ _ h1 h2 => ?_) h1.2.1 h2.2.1 hp
  simp only [leB, decide_eq_true_eq] at h1 h2
  exact List.le_antisymm h1 h2
theorem size_putD (f : Nat → ByteArray) (u : Nat → DataW Unit) {w : World} {b n : Nat} (h : Owns w b n (putD f u n)) : Maps.size (putD f u n) ≤ n := by
  obtain ⟨es, clock, _, _, hs, hD⟩ := h
  rw [hD]
  simp only [Maps.size, length_sorted]
  simpa using hs
def KeysOfPost (w : World) (f : Nat → ByteArray) (n : Nat) (e : Ending) (w' : World) : Prop :=
  ∃ (g : Nat) (R : List (List UInt8)), e = .returned (.slice (some ⟨g, 0, none⟩) R.length R.length) ∧ RowL w' g R ∧ KeysAre (putD f (fun _ => .nil) n) R ∧ R.length ≤ n ∧ Below w.heap.size w w'
theorem keysOf_any (a : Option Addr) (n c : Nat) (f : Nat → ByteArray) (w : World) (hn : n ≤ 8192) (hz : SzOk f n) (h : StrIn w a n c f) :
    Calls Try.prog 10 #[.slice a n c] w (KeysOfPost w f n) := by
  have HO := Lib.hid (objOf_any a n c f w hn hz h)
  clear hz h
  go_enter Try.func10, Try.ntmps10
  go_wp2_with fail
  refine HO.out.mono ?_
  rintro e w1 ⟨rfl, hown, b1⟩
  have hs := size_putD _ _ hown
  have HK := Lib.hid (keys_any w.heap.size n _ w1 hown (by omega))
  have HS := Lib.hid hs
  clear hown hs HO
  go_wp2_with fail
  refine HK.out.mono ?_
  rintro e w2 ⟨R, rfl, hr, hk, hl, b2⟩
  have HR := Lib.hid hr
  have HKK := Lib.hid hk
  have HL := Lib.hid hl
  clear hr hk hl HK
  go_wp2_with fail
  go_ret
  exact ⟨w1.heap.size, R, rfl, HR.out, HKK.out, by have := HL.out; have := HS.out; omega, b1.trans (b2.mono b1.size)⟩
end Go.Proofs.Ytdigmjmghijkeaa
