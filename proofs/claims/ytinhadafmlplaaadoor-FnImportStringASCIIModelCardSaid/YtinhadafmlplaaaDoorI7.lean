/- zzPrintable and zzQuoteASCII: the quoted text of a printable text is what encodeString writes. Condition: at most 2^20 bytes. -/
import Derived.Test.YtinhadafmlplaaaDoorI4
import Derived.OwnWalk
import Derived.Lib.BufferRead
import Derived.Laws.AppendOwn
set_option linter.unusedVariables false
namespace Go.Proofs.YtinhadafmlplaaaDoor
open Go.Shelf Go.RowKit

theorem Tryd.infoByteQ : (Tryd.prog.info? 5).map (fun i => (i.zero, i.size, i.bytes)) = some (some (.int .u8 0), 1, 1) := by kernel_rfl
theorem info_partsQ {P : Program} {t : TypeId} {z : Value} {a b : Nat} (h : (P.info? t).map (fun i => (i.zero, i.size, i.bytes)) = some (some z, a, b)) :
    ∃ i, P.info? t = some i ∧ i.zero = some z ∧ i.size = a ∧ i.bytes = b := by
  cases e : P.info? t with
  | none => rw [e] at h; cases h
  | some i => rw [e] at h; simp at h; exact ⟨i, rfl, h.1, h.2.1, h.2.2⟩
def IfBool (P : Prop) (e : Ending) : Prop := ∃ r : Bool, e = .returned (.bool r) ∧ (r = true → P)
theorem IfBool.no {P : Prop} {e : Ending} (h : e = .returned (.bool false)) : IfBool P e := ⟨false, h, fun h => by cases h⟩
theorem IfBool.yes {P : Prop} {e : Ending} (h : e = .returned (.bool true)) (hP : P) : IfBool P e := ⟨true, h, fun _ => hP⟩
/-- Every byte before place k is printable. -/
def PrTo (s : ByteArray) (k : Nat) : Prop := ∀ j, j < k → 32 ≤ at0 s j ∧ at0 s j ≤ 126
theorem PrTo.next {s : ByteArray} {k : Nat} (h : PrTo s k) (a : 32 ≤ at0 s k) (b : at0 s k ≤ 126) : PrTo s (k + 1) := fun j hj => by
  rcases Nat.lt_or_ge j k with h' | h'
  · exact h j h'
  · obtain rfl : j = k := by omega
    exact ⟨a, b⟩
theorem toList_cells (s : ByteArray) : Lib.strCells s = s.data.toList.map (fun b => .int .u8 b.toNat) := by
  simp [Lib.strCells]
def push1 (a : ByteArray) (x : Nat) : ByteArray := a ++ ⟨#[UInt8.ofNat x]⟩
theorem push1_list (a : ByteArray) (x : Nat) : (push1 a x).data.toList = a.data.toList ++ [UInt8.ofNat x] := by simp [push1, ByteArray.data_append]
theorem push1_size (a : ByteArray) (x : Nat) : (push1 a x).size = a.size + 1 := by
  rw [push1, ByteArray.size_append]; rfl
theorem push1_cells (a : ByteArray) (x : Nat) (h : x < 256) : Lib.strCells (push1 a x) = Lib.strCells a ++ [.int .u8 x] := by
  rw [toList_cells, toList_cells, push1_list, List.map_append]
  have e : (UInt8.ofNat x).toNat = x := by rw [UInt8.toNat_ofNat']; exact Nat.mod_eq_of_lt h
  simp only [List.map_cons, List.map_nil, e]
/-- zzQuoteASCII's text after k bytes. -/
def ascB (s : ByteArray) : Nat → ByteArray
  | 0 => push1 ByteArray.empty 34
  | k + 1 => if at0 s k = 34 ∨ at0 s k = 92 then push1 (push1 (ascB s k) 92) (at0 s k) else push1 (ascB s k) (at0 s k)
theorem ascB_size (s : ByteArray) : ∀ k, (ascB s k).size ≤ 2 * k + 1
  | 0 => by rw [ascB, push1_size]; decide
  | k + 1 => by
    have := ascB_size s k
    rw [ascB]
    split
    · rw [push1_size, push1_size]; omega
    · rw [push1_size]; omega
theorem at0_lt (s : ByteArray) (k : Nat) : at0 s k < 256 := (s.get! k).toNat_lt
theorem ext_one (s : ByteArray) (k : Nat) (h : k < s.size) : (s.extract k (k + 1)).data.toList = [UInt8.ofNat (at0 s k)] := by
  rw [Lib.extract_data]
  have h' : k < s.data.toList.length := by simpa using h
  have e : k + 1 - k = 1 := by omega
  rw [e, List.drop_eq_getElem_cons h']
  simp only [List.take_succ_cons, List.take_zero]
  rw [← at0_is s k h, UInt8.ofNat_toNat]
  simp [ByteArray.getElem_eq_getElem_data]
theorem asc_st (s : ByteArray) (hp : PrTo s s.size) : ∀ k, k ≤ s.size → (st s k).1 = k ∧ (ascB s k).data.toList = 34 :: (st s k).2
  | 0, _ => ⟨rfl, by rw [ascB, push1_list]; rfl⟩
  | k + 1, hk => by
    obtain ⟨h1, h2⟩ := asc_st s hp k (by omega)
    obtain ⟨p1, p2⟩ := hp k (by omega)
    have hlt : k < s.size := by omega
    rw [st, h1, if_pos hlt, ascB]
    by_cases he : at0 s k = 34 ∨ at0 s k = 92
    · have ht : tok s k = ([92, UInt8.ofNat (at0 s k)], 1) := by
        unfold tok
        rw [if_pos (by omega), if_neg (by unfold plainB; omega)]
        unfold escT
        rcases he with e | e <;> rw [e] <;> rfl
      rw [if_pos he, ht, push1_list, push1_list, h2]
      exact ⟨rfl, by simp⟩
    · have ht : tok s k = ([UInt8.ofNat (at0 s k)], 1) := by
        unfold tok
        rw [if_pos (by omega), if_pos (by unfold plainB; omega), ext_one s k hlt]
      rw [if_neg he, ht, push1_list, h2]
      exact ⟨rfl, by simp⟩
theorem quo_is (s : ByteArray) (hp : PrTo s s.size) : push1 (ascB s s.size) 34 = ⟨(encQ s).toArray⟩ := by
  refine ByteArray.ext (Array.ext' ?_)
  rw [push1_list, (asc_st s hp s.size (Nat.le_refl _)).2]
  simp [encQ, encT]
theorem cell_one_newQ (w : World) (v : Value) (t : TypeId) : ∀ j u, [v][j]? = some u → (w.alloc (.cells #[v] t)).cell? ((⟨w.heap.size, 0, none⟩ : Addr).add j) = some u := by
  intro j u hj
  match j, hj with
  | 0, hj => simp at hj; subst hj; simp [Addr.add]
/-- string(b) of a row of the call's own. -/
theorem backQ (w : World) (B : Nat) (v : Value) (t : ByteArray) (h : w.ownsRow B 5 1 v t.size (Lib.strCells t)) : (convert 36 9 v).run Tryd.prog w = .ok (.string t) w := by
  rcases h with ⟨_, ⟨rfl, h0⟩ | ⟨g, cap, cur, rfl, _, hg, _, _, _, hx⟩⟩
  · rw [Lib.run_convert_nil_bytes w 36 9 5 0 Tryd.underlying36 Tryd.underlying5 Tryd.underlying9]
    have : t = ⟨#[]⟩ := by
      cases t with | mk d =>
      have : d.size = 0 := h0
      rw [Array.size_eq_zero_iff] at this
      rw [this]
    rw [this]
  · have h := run_convert_bytes_back (P := Tryd.prog) w 36 9 5 ⟨g, 0, none⟩ cap t.data.toList Tryd.underlying36 Tryd.underlying5 Tryd.underlying9 (fun j hj => by
      rw [Go.WideShapes.add_plain, Nat.zero_add]
      have h1 : (cur.toList.take (t.size * 1))[j]? = (Lib.strCells t)[j]? := by rw [hx]
      have hjs : j < t.size := by simpa using hj
      rw [List.getElem?_take, if_pos (by omega)] at h1
      simp only [World.cell?, hg]
      rw [← Array.getElem?_toList, h1]
      simp [Lib.strCells, hjs])
    simpa using h

set_option maxRecDepth 100000 in
theorem printable_any (s : ByteArray) (w : World) (hs : s.size ≤ 1048576) :
    Calls Tryd.prog 11 #[.string s] w fun e w' => IfBool (PrTo s s.size) e ∧ w = w' := by
  go_enter Tryd.func11, Tryd.ntmps11
  go_wp2
  go_loopw [3] (fun i wr => ∃ k : Nat, k ≤ s.size ∧ i = .int .i64 k ∧ PrTo s k ∧ w = wr) (fun i _ => s.size - (intOf i).toNat)
  case atStart => exact ⟨0, Nat.zero_le _, rfl, fun j hj => absurd hj (Nat.not_lt_zero _), rfl⟩
  case round =>
    obtain ⟨k, hk, rfl, hpr, rfl⟩ := hrel
    have HP := Lib.hid hpr
    clear hpr
    by_cases hlt : k < s.size
    · have hx := at0_is s k hlt
      have HN := Lib.hid (HP.out.next (k := k))
      generalize at0 s k = x at *
      by_cases h1 : x < 32
      · go_wp2_with fail
        go_ret
        exact ⟨IfBool.no rfl, rfl⟩
      · by_cases h2 : 126 < x
        · go_wp2_with fail
          go_ret
          exact ⟨IfBool.no rfl, rfl⟩
        · go_wp2_with fail
          go_roundw
          case rel => exact ⟨k + 1, by omega, by go_num, HN.out (by omega) (by omega), by trivial⟩
          case measure => simp [intOf]; omega
    · obtain rfl : k = s.size := by omega
      go_wp2_with fail
      go_ret
      exact ⟨IfBool.yes rfl HP.out, rfl⟩

set_option maxRecDepth 100000 in
set_option maxHeartbeats 2000000 in
theorem quote_any (s : ByteArray) (w : World) (hs : s.size ≤ 1048576) (hp : PrTo s s.size) :
    Calls Tryd.prog 12 #[.string s] w fun e w' => e = .returned (.string ⟨(encQ s).toArray⟩) ∧ Below w.heap.size w w' := by
  obtain ⟨ib, hi, hz0, hz1, hz2⟩ := info_partsQ Tryd.infoByteQ
  have HI := Lib.hid hi
  have HZ0 := Lib.hid hz0
  have HZ1 := Lib.hid hz1
  have HZ2 := Lib.hid hz2
  have HQ := Lib.hid (quo_is s hp)
  clear hi hz0 hz1 hz2 hp
  go_enter Tryd.func12, Tryd.ntmps12
  go_wp2_with (at_make; go_loud (refine wpList_make_own _ rfl _ _ 36 rfl w.heap.size 5 ib (.int .u8 0) 1 Tryd.underlying36 HI.out HZ0.out HZ1.out _ _ _ (2 * s.size + 2) rfl rfl (by omega) (by rw [HZ2.out]; omega) (by unfold maxLen; omega) (Nat.le_refl _) ?_))
  intro w1 hrow1 hg1
  have B1 : Below w.heap.size w w1 := (Below.refl _ _).grown hg1 (Nat.le_refl _) (fun j hj => by cases hj)
  have HB1 := Lib.hid B1.size
  clear hg1
  go_wp2_with (at_builtin; go_loud (refine wpList_append_own _ rfl _ _ 36 rfl w.heap.size 5 ib (.int .u8 0) 1 1 Tryd.underlying36 HI.out HZ0.out HZ1.out HZ2.out rfl (by decide) _ _ _ rfl (hrow1.alloc _) ⟨w1.heap.size, 0, none⟩ 1 1 [.int .u8 34] rfl rfl (cell_one_newQ _ _ _) (by simp [Value.oneCell']) ?c3 ?c4 ?c5 ?_))
  case c3 => unfold maxLen; omega
  case c4 => omega
  case c5 => have := HB1.out; simp; omega
  intro v2 w2 hown2 hgrow2 _
  have hrow2 : w2.ownsRow w.heap.size 5 1 v2 (ascB s 0).size (Lib.strCells (ascB s 0)) := by
    rw [ascB, push1_size, push1_cells _ _ (by decide)]
    exact hown2
  have B2 := (B1.alloc HB1.out _).grown hgrow2 (by have := HB1.out; simp; omega) (fun j hj => (hrow1.lt j hj).1)
  clear hown2 hgrow2 hrow1 B1 HB1
  go_wp2_with fail
  go_loopw [3, 4] (fun v i wr => ∃ k : Nat, k ≤ s.size ∧ i = .int .i64 k ∧ wr.ownsRow w.heap.size 5 1 v (ascB s k).size (Lib.strCells (ascB s k)) ∧ Below w.heap.size w wr) (fun _ i _ => s.size - (intOf i).toNat)
  case atStart => exact ⟨0, Nat.zero_le _, rfl, hrow2, B2⟩
  case round =>
    clear hrow2 B2
    obtain ⟨k, hk, rfl, hrow, hb⟩ := hrel
    have HROW := Lib.hid hrow
    have HSZ := Lib.hid hb.size
    have HBB := Lib.hid hb
    have SZ := Lib.hid (ascB_size s k)
    clear hrow hb
    by_cases hlt : k < s.size
    · have hx := at0_is s k hlt
      have HL := Lib.hid (at0_lt s k)
      have HA := Lib.hid (show ascB s (k + 1) = _ from ascB.eq_2 s k)
      generalize at0 s k = x at *
      by_cases he : x = 34 ∨ x = 92
      · rcases he with rfl | rfl
        · go_wp2_with (at_builtin; go_loud (refine wpList_append_own _ rfl _ _ 36 rfl w.heap.size 5 ib (.int .u8 0) 1 1 Tryd.underlying36 HI.out HZ0.out HZ1.out HZ2.out rfl (by decide) _ _ _ rfl (HROW.out.alloc _) ⟨wr.heap.size, 0, none⟩ 1 1 [.int .u8 92] rfl rfl (cell_one_newQ _ _ _) (by simp [Value.oneCell']) ?ad3 ?ad4 ?ad5 ?_))
          case ad3 => have := SZ.out; unfold maxLen; omega
          case ad4 => have := SZ.out; omega
          case ad5 => have := HSZ.out; simp; omega
          intro v4 w4 hown4 hgrow4 _
          have hb4 := (HBB.out.alloc HSZ.out _).grown hgrow4 (by have := HSZ.out; simp; omega) (fun j hj => (HROW.out.lt j hj).1)
          have hr4 : w4.ownsRow w.heap.size 5 1 v4 (push1 (ascB s k) 92).size (Lib.strCells (push1 (ascB s k) 92)) := by
            rw [push1_size, push1_cells _ _ (by decide)]
            exact hown4
          have HR4 := Lib.hid hr4
          have HB4 := Lib.hid hb4
          have HS4 := Lib.hid hb4.size
          clear hown4 hgrow4 hr4 hb4 HROW HSZ HBB
          go_wp2_with (at_builtin; go_loud (refine wpList_append_own _ rfl _ _ 36 rfl w.heap.size 5 ib (.int .u8 0) 1 1 Tryd.underlying36 HI.out HZ0.out HZ1.out HZ2.out rfl (by decide) _ _ _ rfl (HR4.out.alloc _) ⟨w4.heap.size, 0, none⟩ 1 1 [.int .u8 34] rfl rfl (cell_one_newQ _ _ _) (by simp [Value.oneCell']) ?ae3 ?ae4 ?ae5 ?_))
          case ae3 => have := SZ.out; rw [push1_size]; unfold maxLen; omega
          case ae4 => have := SZ.out; rw [push1_size]; omega
          case ae5 => have := HS4.out; simp; omega
          intro v5 w5 hown5 hgrow5 _
          have hb5 := (HB4.out.alloc HS4.out _).grown hgrow5 (by have := HS4.out; simp; omega) (fun j hj => (HR4.out.lt j hj).1)
          go_wp2_with fail
          go_roundw
          case rel =>
            refine ⟨k + 1, by omega, by go_num, ?_, hb5⟩
            rw [HA.out, if_pos (by decide), push1_size, push1_cells _ _ (by decide)]
            exact hown5
          case measure => simp [intOf]; omega
        · go_wp2_with (at_builtin; go_loud (refine wpList_append_own _ rfl _ _ 36 rfl w.heap.size 5 ib (.int .u8 0) 1 1 Tryd.underlying36 HI.out HZ0.out HZ1.out HZ2.out rfl (by decide) _ _ _ rfl (HROW.out.alloc _) ⟨wr.heap.size, 0, none⟩ 1 1 [.int .u8 92] rfl rfl (cell_one_newQ _ _ _) (by simp [Value.oneCell']) ?bd3 ?bd4 ?bd5 ?_))
          case bd3 => have := SZ.out; unfold maxLen; omega
          case bd4 => have := SZ.out; omega
          case bd5 => have := HSZ.out; simp; omega
          intro v4 w4 hown4 hgrow4 _
          have hb4 := (HBB.out.alloc HSZ.out _).grown hgrow4 (by have := HSZ.out; simp; omega) (fun j hj => (HROW.out.lt j hj).1)
          have hr4 : w4.ownsRow w.heap.size 5 1 v4 (push1 (ascB s k) 92).size (Lib.strCells (push1 (ascB s k) 92)) := by
            rw [push1_size, push1_cells _ _ (by decide)]
            exact hown4
          have HR4 := Lib.hid hr4
          have HB4 := Lib.hid hb4
          have HS4 := Lib.hid hb4.size
          clear hown4 hgrow4 hr4 hb4 HROW HSZ HBB
          go_wp2_with (at_builtin; go_loud (refine wpList_append_own _ rfl _ _ 36 rfl w.heap.size 5 ib (.int .u8 0) 1 1 Tryd.underlying36 HI.out HZ0.out HZ1.out HZ2.out rfl (by decide) _ _ _ rfl (HR4.out.alloc _) ⟨w4.heap.size, 0, none⟩ 1 1 [.int .u8 92] rfl rfl (cell_one_newQ _ _ _) (by simp [Value.oneCell']) ?be3 ?be4 ?be5 ?_))
          case be3 => have := SZ.out; rw [push1_size]; unfold maxLen; omega
          case be4 => have := SZ.out; rw [push1_size]; omega
          case be5 => have := HS4.out; simp; omega
          intro v5 w5 hown5 hgrow5 _
          have hb5 := (HB4.out.alloc HS4.out _).grown hgrow5 (by have := HS4.out; simp; omega) (fun j hj => (HR4.out.lt j hj).1)
          go_wp2_with fail
          go_roundw
          case rel =>
            refine ⟨k + 1, by omega, by go_num, ?_, hb5⟩
            rw [HA.out, if_pos (by decide), push1_size, push1_cells _ _ (by decide)]
            exact hown5
          case measure => simp [intOf]; omega
      · have HE := Lib.hid he
        have n1 : ((x : Int) == 34) = false := by simp; omega
        have n2 : ((x : Int) == 92) = false := by simp; omega
        go_wp2_with (at_builtin; go_loud (refine wpList_append_own _ rfl _ _ 36 rfl w.heap.size 5 ib (.int .u8 0) 1 1 Tryd.underlying36 HI.out HZ0.out HZ1.out HZ2.out rfl (by decide) _ _ _ rfl (HROW.out.alloc _) ⟨wr.heap.size, 0, none⟩ 1 1 [.int .u8 x] rfl rfl (cell_one_newQ _ _ _) (by simp [Value.oneCell']) ?f3 ?f4 ?f5 ?_))
        case f3 => have := SZ.out; unfold maxLen; omega
        case f4 => have := SZ.out; omega
        case f5 => have := HSZ.out; simp; omega
        intro v4 w4 hown4 hgrow4 _
        have hb4 := (HBB.out.alloc HSZ.out _).grown hgrow4 (by have := HSZ.out; simp; omega) (fun j hj => (HROW.out.lt j hj).1)
        go_wp2_with fail
        go_roundw
        case rel =>
          refine ⟨k + 1, by omega, by go_num, ?_, hb4⟩
          rw [HA.out, if_neg HE.out, push1_size, push1_cells _ _ HL.out]
          exact hown4
        case measure => simp [intOf]; omega
    · obtain rfl : k = s.size := by omega
      go_wp2_with (at_builtin; go_loud (refine wpList_append_own _ rfl _ _ 36 rfl w.heap.size 5 ib (.int .u8 0) 1 1 Tryd.underlying36 HI.out HZ0.out HZ1.out HZ2.out rfl (by decide) _ _ _ rfl (HROW.out.alloc _) ⟨wr.heap.size, 0, none⟩ 1 1 [.int .u8 34] rfl rfl (cell_one_newQ _ _ _) (by simp [Value.oneCell']) ?g3 ?g4 ?g5 ?_))
      case g3 => have := SZ.out; unfold maxLen; omega
      case g4 => have := SZ.out; omega
      case g5 => have := HSZ.out; simp; omega
      intro v4 w4 hown4 hgrow4 _
      have hb4 := (HBB.out.alloc HSZ.out _).grown hgrow4 (by have := HSZ.out; simp; omega) (fun j hj => (HROW.out.lt j hj).1)
      have hr4 : w4.ownsRow w.heap.size 5 1 v4 (push1 (ascB s s.size) 34).size (Lib.strCells (push1 (ascB s s.size) 34)) := by
        rw [push1_size, push1_cells _ _ (by decide)]
        exact hown4
      have hback := backQ _ _ _ _ hr4
      rw [HQ.out] at hback
      clear hr4 hown4 hgrow4
      go_wp2_with fail
      go_ret
      exact ⟨rfl, hb4⟩
end Go.Proofs.YtinhadafmlplaaaDoor
