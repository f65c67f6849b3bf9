/- joinWith and patternText. Conditions: at most 2^20 bytes in all. -/
import Derived.Test.YtboekgedfhdaaaaDoorRS
set_option linter.unusedVariables false
namespace Go.Proofs.YtboekgedfhdaaaaDoor
open Go.Shelf Go.RowKit


theorem Tryd.infoByte8 : (Tryd.prog.info? 5).map (fun i => (i.zero, i.size, i.bytes)) = some (some (.int .u8 0), 1, 1) := by kernel_rfl
theorem info_parts8 {P : Program} {t : TypeId} {z : Value} {a b : Nat} (h : (P.info? t).map (fun i => (i.zero, i.size, i.bytes)) = some (some z, a, b)) :
    ∃ i, P.info? t = some i ∧ i.zero = some z ∧ i.size = a ∧ i.bytes = b := by
  cases e : P.info? t with
  | none => rw [e] at h; cases h
  | some i => rw [e] at h; simp at h; exact ⟨i, rfl, h.1, h.2.1, h.2.2⟩
theorem strCells_append (a b : ByteArray) : Lib.strCells (a ++ b) = Lib.strCells a ++ Lib.strCells b := by
  simp [Lib.strCells, ByteArray.data_append]
/-- string(b) of a row of the call's own. -/
theorem back (w : World) (B : Nat) (v : Value) (t : ByteArray) (h : w.ownsRow B 5 1 v t.size (Lib.strCells t)) : (convert 74 9 v).run Tryd.prog w = .ok (.string t) w := by
  rcases h with ⟨_, ⟨rfl, h0⟩ | ⟨g, cap, cur, rfl, _, hg, _, _, _, hx⟩⟩
  · rw [Lib.run_convert_nil_bytes w 74 9 5 0 Tryd.underlying74 Tryd.underlying5 Tryd.underlying9]
    have : t = ⟨#[]⟩ := by
      cases t with | mk d =>
      have : d.size = 0 := h0
      rw [Array.size_eq_zero_iff] at this
      rw [this]
    rw [this]
  · have h := run_convert_bytes_back (P := Tryd.prog) w 74 9 5 ⟨g, 0, none⟩ cap t.data.toList Tryd.underlying74 Tryd.underlying5 Tryd.underlying9 (fun j hj => by
      rw [Go.WideShapes.add_plain, Nat.zero_add]
      have h1 : (cur.toList.take (t.size * 1))[j]? = (Lib.strCells t)[j]? := by rw [hx]
      have hjs : j < t.size := by simpa using hj
      rw [List.getElem?_take, if_pos (by omega)] at h1
      simp only [World.cell?, hg]
      rw [← Array.getElem?_toList, h1]
      simp [Lib.strCells, hjs])
    simpa using h
def joinB (f : Nat → ByteArray) (sep : ByteArray) : Nat → ByteArray
  | 0 => ByteArray.empty
  | k + 1 => if k = 0 then f 0 else joinB f sep k ++ sep ++ f k
theorem joinB_one (f : Nat → ByteArray) (sep : ByteArray) : joinB f sep 1 = f 0 := by simp [joinB]
theorem joinB_next (f : Nat → ByteArray) (sep : ByteArray) (k : Nat) (h : 0 < k) : joinB f sep (k + 1) = joinB f sep k ++ sep ++ f k := by
  rw [joinB, if_neg (by omega)]
theorem joinB_eq (f : Nat → ByteArray) (sep : ByteArray) : ∀ k, (joinB f sep k).data.toList = joinT f sep.data.toList k
  | 0 => rfl
  | 1 => by rw [joinB_one]; rfl
  | k + 2 => by
    have := joinB_eq f sep (k + 1)
    rw [joinB_next f sep (k + 1) (by omega), joinT, ← this]
    simp [ByteArray.data_append]
theorem joinB_size (f : Nat → ByteArray) (sep : ByteArray) (k : Nat) : (joinB f sep k).size ≤ sep.size * k + tot f k := by
  rw [Lib.size_eq, joinB_eq, Lib.size_eq sep]; exact joinT_len f _ k
set_option maxRecDepth 100000 in
theorem joinWith_any (a : Option Addr) (n c : Nat) (f : Nat → ByteArray) (sep : ByteArray) (w : World) (hn : n ≤ 65536) (ht : tot f n ≤ 1048576) (hs : sep.size ≤ 16) (h : StrIn w a n c f) :
    Calls Tryd.prog 22 #[.slice a n c, .string sep] w fun e w' => e = .returned (.string (joinB f sep n)) ∧ Below w.heap.size w w' := by
  obtain ⟨ib, hi, hz0, hz1, hz2⟩ := info_parts8 Tryd.infoByte8
  have HI := Lib.hid hi
  have HZ0 := Lib.hid hz0
  have HZ1 := Lib.hid hz1
  have HZ2 := Lib.hid hz2
  clear hi hz0 hz1 hz2
  go_enter Tryd.func22, Tryd.ntmps22
  go_wp2_with (at_make; go_loud (refine wpList_make_own _ rfl _ _ 74 rfl w.heap.size 5 ib (.int .u8 0) 1 Tryd.underlying74 HI.out HZ0.out HZ1.out _ _ _ 16 rfl rfl rfl (by rw [HZ2.out]; decide) (by decide) (Nat.le_refl _) ?_))
  intro w1 hrow1 hg1
  have B1 : Below w.heap.size w w1 := (Below.refl _ _).grown hg1 (Nat.le_refl _) (fun j hj => by cases hj)
  clear hg1
  go_wp2_with fail
  go_loopw [5, 6] (fun v i wr => ∃ k : Nat, k ≤ n ∧ i = .int .i64 k ∧ wr.ownsRow w.heap.size 5 1 v (joinB f sep k).size (Lib.strCells (joinB f sep k)) ∧ Below w.heap.size w wr) (fun _ i _ => n - (intOf i).toNat)
  case atStart => exact ⟨0, Nat.zero_le _, rfl, by simpa [joinB, Lib.strCells] using hrow1, B1⟩
  case round =>
    clear hrow1 B1
    obtain ⟨k, hk, rfl, hrow, hb⟩ := hrel
    have HROW := Lib.hid hrow
    clear hrow
    by_cases hlt : k < n
    · rcases h with ⟨_, h0, _⟩ | ⟨x, rfl, hx⟩
      · omega
      have HXW := Lib.hid (hx k hlt)
      have hc : wr.cell? (x.add k) = some (.string (f k)) := (hb.cell (block_lt_of_cell (hx k hlt))).trans (hx k hlt)
      clear hx
      have T1 := Lib.hid (joinB_size f sep k)
      have T2 := Lib.hid (tot_at f hlt)
      have T3 := Lib.hid (show sep.size * k ≤ 16 * 65536 from Nat.mul_le_mul hs (by omega))
      have HB := Lib.hid hb.size
      have HBB := Lib.hid hb
      clear hb
      by_cases h0 : k = 0
      · subst h0
        have hc2 : wr.cell? x = some (.string (f 0)) := hc
        go_wp2_with (at_builtin; go_loud (refine Lib.wpList_append_own_string _ rfl _ _ 74 9 rfl w.heap.size 5 ib Tryd.underlying74 Tryd.underlying9 HI.out HZ0.out HZ1.out HZ2.out _ _ _ rfl HROW.out (f 0) rfl ?c3 ?c4 ?c5 ?_))
        case c3 => have := T1.out; have := T2.out; have := T3.out; unfold maxLen; omega
        case c4 => have := T1.out; have := T2.out; have := T3.out; omega
        case c5 => exact HB.out
        intro v' w4 hown' hgrow _
        go_wp2_with fail
        go_roundw
        case rel => exact ⟨1, by omega, by go_num, by simpa [joinB, Lib.strCells] using hown', HBB.out.grown hgrow HB.out (fun k hk => (HROW.out.lt k hk).1)⟩
        case measure => simp [intOf]; omega
      · have h0' : 0 < k := by omega
        clear h0
        go_wp2_with (at_builtin; go_loud (refine Lib.wpList_append_own_string _ rfl _ _ 74 9 rfl w.heap.size 5 ib Tryd.underlying74 Tryd.underlying9 HI.out HZ0.out HZ1.out HZ2.out _ _ _ rfl HROW.out sep rfl ?d3 ?d4 ?d5 ?_))
        case d3 => have := T1.out; have := T2.out; have := T3.out; unfold maxLen; omega
        case d4 => have := T1.out; have := T2.out; have := T3.out; omega
        case d5 => exact HB.out
        intro v' w4 hown' hgrow _
        have B4 := HBB.out.grown hgrow HB.out (fun k hk => (HROW.out.lt k hk).1)
        have c4 : w4.cell? (x.add k) = some (.string (f k)) := (B4.cell (block_lt_of_cell HXW.out)).trans HXW.out
        clear hc
        have H4 := Lib.hid hown'
        have HB4 := Lib.hid B4
        have HG := Lib.hid hgrow.size
        clear hown' hgrow B4 HROW HBB
        go_wp2_with (at_builtin; go_loud (refine Lib.wpList_append_own_string _ rfl _ _ 74 9 rfl w.heap.size 5 ib Tryd.underlying74 Tryd.underlying9 HI.out HZ0.out HZ1.out HZ2.out _ _ _ rfl H4.out (f k) rfl ?e3 ?e4 ?e5 ?_))
        case e3 => have := T1.out; have := T2.out; have := T3.out; unfold maxLen; omega
        case e4 => have := T1.out; have := T2.out; have := T3.out; omega
        case e5 => have := HB.out; have := HG.out; omega
        intro v5 w5 hown5 hgrow5 _
        go_wp2_with fail
        go_roundw
        case rel =>
          refine ⟨k + 1, by omega, by go_num, ?_, HB4.out.grown hgrow5 (by have := HB.out; have := HG.out; omega) (fun k hk => (H4.out.lt k hk).1)⟩
          rw [joinB_next f sep k h0']
          simpa [strCells_append, ByteArray.size_append, Nat.add_assoc] using hown5
        case measure => simp [intOf]; omega
    · obtain rfl : n = k := by omega
      have hback := back _ _ _ _ HROW.out
      clear HROW
      go_wp2_with fail
      go_ret
      exact ⟨rfl, hb⟩
def sComma : List UInt8 := [44, 32]
def sPipe : List UInt8 := [32, 124, 32]
/-- The text of a pattern. -/
def patT (s : ByteArray) (f : Nat → ByteArray) (n : Nat) : List UInt8 := if s.size = 0 then (if n = 0 then [] else [91] ++ joinT f sComma n ++ [93]) else s.data.toList
theorem empty_of {s : ByteArray} (h : s.size = 0) : s.toList.isEmpty = true := by
  rw [ByteArray.toList_eq, List.isEmpty_iff_length_eq_zero, ← Lib.size_eq]; exact h
theorem nonempty_of {s : ByteArray} (h : ¬ s.size = 0) : s.toList.isEmpty = false := by
  rw [ByteArray.toList_eq, Bool.eq_false_iff, Ne, List.isEmpty_iff_length_eq_zero, ← Lib.size_eq]; exact h
theorem eqnil_of {s : ByteArray} (h : s.size = 0) : s.toList = [] := by
  rw [ByteArray.toList_eq, ← List.length_eq_zero_iff, ← Lib.size_eq]; exact h
theorem ret_str {a b : ByteArray} (h : a = b) : Ending.returned (.string a) = .returned (.string b) := by rw [h]
theorem ba_list {a b : ByteArray} (h : a.data.toList = b.data.toList) : a = b := ByteArray.ext (Array.ext' h)
set_option maxRecDepth 100000 in
theorem patternText_any (s : ByteArray) (a : Option Addr) (n c : Nat) (f : Nat → ByteArray) (w : World) (hs : s.size ≤ 1048576) (hn : n ≤ 65536) (ht : tot f n ≤ 1048576) (h : StrIn w a n c f) :
    Calls Tryd.prog 23 #[.string s, .slice a n c] w fun e w' => e = .returned (.string ⟨(patT s f n).toArray⟩) ∧ Below w.heap.size w w' := by
  by_cases e0 : s.size = 0
  · have n1 := empty_of e0
    have n2 := eqnil_of e0
    have NN := Lib.hid e0
    clear e0
    by_cases e1 : n = 0
    · subst e1
      go_enter Tryd.func23, Tryd.ntmps23
      go_wp2
      go_ret
      refine ⟨ret_str (ba_list ?_), Below.refl _ _⟩
      rw [patT, if_pos NN.out, if_pos rfl]
    · have e2 : 0 < n := by omega
      have N2 := Lib.hid e1
      clear e1
      have Z1 := Lib.hid (joinB_size f ⟨#[44, 32]⟩ n)
      go_enter Tryd.func23, Tryd.ntmps23
      go_wp2_with fail
      refine (joinWith_any a n c f ⟨#[44, 32]⟩ _ hn ht (by decide) h).mono ?_
      rintro e w1 ⟨rfl, b1⟩
      have ZZ : (joinB f ⟨#[44, 32]⟩ n).size ≤ 2097152 := by have := Z1.out; have e : (⟨#[44, 32]⟩ : ByteArray).size = 2 := rfl; rw [e] at this; omega
      go_wp2_with fail
      go_ret
      refine ⟨ret_str (ba_list ?_), b1⟩
      rw [patT, if_pos NN.out, if_neg N2.out]
      simp only [ByteArray.data_append, Array.toList_append, joinB_eq]
      rfl
  · have n1 := nonempty_of e0
    have NN := Lib.hid e0
    clear e0
    go_enter Tryd.func23, Tryd.ntmps23
    go_wp2
    go_ret
    refine ⟨ret_str (ba_list ?_), Below.refl _ _⟩
    rw [patT, if_neg NN.out]
end Go.Proofs.YtboekgedfhdaaaaDoor
