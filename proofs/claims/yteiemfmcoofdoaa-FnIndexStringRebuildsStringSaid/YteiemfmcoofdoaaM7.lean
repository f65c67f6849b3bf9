/- The walk of FnIndexStringRebuildsString. -/
import Derived.Test.YteiemfmcoofdoaaStr
import Derived.OwnWalk
import Derived.Lib.AppendStr
import Derived.Lib.BufferRead
import Derived.Laws.Cover4
set_option linter.unusedVariables false
namespace Go.Proofs.Yteiemfmcoofdoaa
open Go.RowKit

theorem Try.infoByte : (Try.prog.info? 5).map (fun i => (i.zero, i.size, i.bytes)) = some (some (.int .u8 0), 1, 1) := by kernel_rfl
theorem info_parts7 {P : Program} {t : TypeId} {z : Value} {a b : Nat} (h : (P.info? t).map (fun i => (i.zero, i.size, i.bytes)) = some (some z, a, b)) :
    ∃ i, P.info? t = some i ∧ i.zero = some z ∧ i.size = a ∧ i.bytes = b := by
  cases e : P.info? t with
  | none => rw [e] at h; cases h
  | some i => rw [e] at h; simp at h; exact ⟨i, rfl, h.1, h.2.1, h.2.2⟩

/-- The first k runes, one behind the other. -/
def txt (R : Nat → Nat) : Nat → ByteArray
  | 0 => ByteArray.empty
  | k + 1 => txt R k ++ Utf8.encode (R k : Int)
theorem txt_size (R : Nat → Nat) : ∀ k, (txt R k).size ≤ 4 * k
  | 0 => by simp [txt]
  | k + 1 => by
    have h1 := txt_size R k
    have h2 := encode_size_le (R k : Int)
    simp only [txt, ByteArray.size_append]
    omega
theorem txt_runes (R : Nat → Nat) : ∀ k, runesBytes ((List.range k).map (fun j => (R j : Int))) = txt R k
  | 0 => rfl
  | k + 1 => by
    have h := txt_runes R k
    unfold runesBytes at h ⊢
    rw [List.range_succ, List.map_append, List.foldl_append, h]
    rfl
theorem strCells_append (a b : ByteArray) : Lib.strCells (a ++ b) = Lib.strCells a ++ Lib.strCells b := by
  simp [Lib.strCells, ByteArray.data_append]

/-- string(out) of a row of its own. -/
theorem back (w : World) (B : Nat) (v : Value) (t : ByteArray) (h : w.ownsRow B 5 1 v t.size (Lib.strCells t)) : (convert 39 9 v).run Try.prog w = .ok (.string t) w := by
  rcases h with ⟨_, ⟨rfl, h0⟩ | ⟨g, cap, cur, rfl, _, hg, _, _, _, hx⟩⟩
  · rw [Lib.run_convert_nil_bytes w 39 9 5 0 Try.underlying39 Try.underlying5 Try.underlying9]
    have : t = ⟨#[]⟩ := by
      cases t with | mk d =>
      have : d.size = 0 := h0
      rw [Array.size_eq_zero_iff] at this
      rw [this]
    rw [this]
  · have h := run_convert_bytes_back (P := Try.prog) w 39 9 5 ⟨g, 0, none⟩ cap t.data.toList Try.underlying39 Try.underlying5 Try.underlying9 (fun j hj => by
      rw [Go.WideShapes.add_plain, Nat.zero_add]
      have h1 : (cur.toList.take (t.size * 1))[j]? = (Lib.strCells t)[j]? := by rw [hx]
      have hjs : j < t.size := by simpa using hj
      rw [List.getElem?_take, if_pos (by omega)] at h1
      simp only [World.cell?, hg]
      rw [← Array.getElem?_toList, h1]
      simp [Lib.strCells, hjs])
    simpa using h

theorem Below.grownOwn {w w' : World} (h : Below w.heap.size w w') : w.grownBy w' none := ⟨h.os, h.tape, h.output, h.size, fun k hk _ => h.block k hk⟩

theorem zzb20 (s : ByteArray) (w : World) (h : s.size ≤ 1048576) : Calls Try.prog 20 #[.string s] w fun e w' => e = .returned (.bool true) ∧ w = w' := by
  go_enter Try.func20, Try.ntmps20
  go_wp2
  go_ret
  exact ⟨rfl, rfl⟩

/-- The answers, by the place. -/
def GotS (R : Nat → Nat) (k : Nat) (e : Ending) : Prop := e = .returned (.tuple #[.string (Utf8.encode (R k)), .bool true])
def NoS (e : Ending) : Prop := e = .returned (.tuple #[.string ByteArray.empty, .bool false])
theorem zz_got (s : ByteArray) (i : Int) (k : Nat) (w : World) (hs : s.size ≤ 1048576) (hN : Names (nr s) i k) (i0 : -9223372036854775808 ≤ i) (i1 : i ≤ 9223372036854775807) :
    Calls Try.prog 9 #[.string s, .int .i64 i] w fun e w' => GotS (runeAt s) k e ∧ Below w.heap.size w w' := by
  refine (zzIndexString s i w hs i0 i1).mono ?_
  rintro e w' ⟨⟨k', hN', rfl⟩ | ⟨hN', rfl⟩, hb⟩
  · obtain rfl : k = k' := by unfold Names at hN hN'; omega
    exact ⟨rfl, hb⟩
  · unfold Names at hN; unfold NoPlace at hN'; omega
theorem zz_no (s : ByteArray) (i : Int) (w : World) (hs : s.size ≤ 1048576) (hN : NoPlace (nr s) i) (i0 : -9223372036854775808 ≤ i) (i1 : i ≤ 9223372036854775807) :
    Calls Try.prog 9 #[.string s, .int .i64 i] w fun e w' => NoS e ∧ Below w.heap.size w w' := by
  refine (zzIndexString s i w hs i0 i1).mono ?_
  rintro e w' ⟨⟨k', hN', rfl⟩ | ⟨hN', rfl⟩, hb⟩
  · unfold Names at hN'; unfold NoPlace at hN; omega
  · exact ⟨rfl, hb⟩

set_option maxRecDepth 100000 in
theorem law7_main (s : ByteArray) (w : World) (hs : s.size ≤ 4096) :
    Calls Try.prog 7 #[.string s] w fun e w' => e = .returned (.bool true) ∧ Below w.heap.size w w' := by
  obtain ⟨ib, hi, hz0, hz1, hz2⟩ := info_parts7 Try.infoByte
  have HI := Lib.hid hi
  have HZ0 := Lib.hid hz0
  have HZ1 := Lib.hid hz1
  have HZ2 := Lib.hid hz2
  clear hi hz0 hz1 hz2
  have hnl := nr_le s
  obtain ⟨c, cs, hc, hcs, hrun⟩ := runes_run s (by omega) w
  have HS := Lib.hid hcs
  clear hcs
  have hns : nr s ≤ 4096 := by omega
  clear hnl
  have HG := Lib.hid (fun i k W (hN : Names (nr s) i k) i0 i1 => zz_got s i k W (by omega) hN i0 i1)
  have HN := Lib.hid (fun i W (hN : NoPlace (nr s) i) i0 i1 => zz_no s i W (by omega) hN i0 i1)
  generalize hR : runeAt s = R at HS HG
  generalize nr s = n at *
  clear hR
  go_enter Try.func7, Try.ntmps7
  go_wp2_with fail
  refine (zzb20 s w (by omega)).mono ?_
  rintro e w1 ⟨rfl, rfl⟩
  go_wp2_with fail
  clear hrun
  go_loopw [5, 6] (fun v j wr => ∃ k : Nat, k ≤ n ∧ j = .int .i64 k ∧ wr.ownsRow (w.heap.size + 1) 5 1 v (txt R k).size (Lib.strCells (txt R k)) ∧ Below (w.heap.size + 1) (w.alloc (.cells cs 21)).drew wr) (fun _ j _ => n - (intOf j).toNat)
  case atStart => exact ⟨0, Nat.zero_le _, rfl, World.ownsRow_nil _ _ _ _, Below.refl _ _⟩
  case round =>
    obtain ⟨k, hk, rfl, hrow, hb⟩ := hrel
    have HL := Lib.hid hb.size
    have HROW := Lib.hid hrow
    clear hrow
    by_cases hlt : k < n
    · go_wp2_with fail
      refine (HG.out (k : Int) k _ ⟨hlt, Or.inl rfl⟩ (by omega) (by omega)).mono ?_
      rintro e w2 ⟨hE, hb2⟩
      cases hE
      go_wp2_with fail
      refine (HG.out ((k : Int) - n) k _ ⟨hlt, Or.inr rfl⟩ (by omega) (by omega)).mono ?_
      rintro e w3 ⟨hE, hb3⟩
      cases hE
      have G2 := Below.grownOwn hb2
      have G3 := Below.grownOwn hb3
      have hr2 := HROW.out.kept G2 (by cases h : Value.ownBlock _ <;> simp)
      have hr3 := hr2.kept G3 (by cases h : Value.ownBlock _ <;> simp)
      have HTS := Lib.hid (txt_size R k)
      have HES := Lib.hid (encode_size_le (R k : Int))
      have BB : Below (w.heap.size + 1) (w.alloc (.cells cs 21)).drew w3 := (hb.trans (hb2.mono (by have := HL.out; simpa using this))).trans (hb3.mono (by have := HL.out; have := hb2.size; simp at *; omega))
      have HB3 := Lib.hid BB.size
      have HR3 := Lib.hid hr3
      clear hr2 hr3 G2 G3 HROW hb
      go_wp2_with (at_builtin; go_loud (refine Lib.wpList_append_own_string _ rfl _ _ 39 9 rfl (w.heap.size + 1) 5 ib Try.underlying39 Try.underlying9 HI.out HZ0.out HZ1.out HZ2.out _ _ _ rfl HR3.out (Utf8.encode (R k : Int)) rfl ?c3 ?c4 ?c5 ?_))
      case c3 => have := HTS.out; have := HES.out; unfold maxLen; omega
      case c4 => have := HTS.out; have := HES.out; omega
      case c5 => have := HB3.out; simpa using this
      intro v' w4 hown' hgrow _
      go_wp2_with fail
      go_roundw
      case rel =>
        refine ⟨k + 1, by omega, by go_num, ?_, BB.grown hgrow (by have := HB3.out; simpa using this) (fun k hk => (HR3.out.lt k hk).1)⟩
        simpa [txt, strCells_append, ByteArray.size_append] using hown'
      case measure => simp [intOf]; omega
    · obtain rfl : n = k := by omega
      go_wp2_with fail
      refine (HN.out (n : Int) _ (Or.inr (by omega)) (by omega) (by omega)).mono ?_
      rintro e w2 ⟨hE, hb2⟩
      cases hE
      go_wp2_with fail
      refine (HN.out (-(n : Int) - 1) _ (Or.inl (by omega)) (by omega) (by omega)).mono ?_
      rintro e w3 ⟨hE, hb3⟩
      cases hE
      have G2 := Below.grownOwn hb2
      have G3 := Below.grownOwn hb3
      have hr2 := HROW.out.kept G2 (by cases h : Value.ownBlock _ <;> simp)
      have hr3 := hr2.kept G3 (by cases h : Value.ownBlock _ <;> simp)
      have BB : Below (w.heap.size + 1) (w.alloc (.cells cs 21)).drew w3 := (hb.trans (hb2.mono (by have := HL.out; simpa using this))).trans (hb3.mono (by have := HL.out; have := hb2.size; simp at *; omega))
      have hback := back _ _ _ _ hr3
      have hruns := run_convert_runes (P := Try.prog) w3 23 9 21 ⟨w.heap.size, 0, none⟩ n c ((List.range n).map (fun j => (R j : Int))) (by simp) Try.underlying23 Try.underlying21 Try.underlying9 (fun j hj => by
        have hj' : j < n := by simpa using hj
        rw [Go.WideShapes.add_plain, Nat.zero_add, BB.cell (p := ⟨w.heap.size, j, none⟩) (by simp)]
        simp [HS.out j hj', List.getD, hj'])
      rw [List.take_of_length_le (by simp), txt_runes] at hruns
      have FIN : Below w.heap.size w w3 := ((Below.refl _ w).alloc (Nat.le_refl _) _).drew.trans (BB.mono (by omega))
      clear hr2 hr3 G2 G3 HROW hb BB
      generalize txt R n = T at *
      go_wp2_with fail
      go_ret
      exact ⟨by simp, FIN⟩

theorem law7 (s : ByteArray) (w : World) (hs : s.size ≤ 9223372036854775807) :
    Calls Try.prog 7 #[.string s] w fun e w' => e = .returned (.bool true) ∧ Below w.heap.size w w' := by
  by_cases h1 : 1048576 < s.size
  · go_enter Try.func7, Try.ntmps7
    go_wp2
    all_goals
      go_ret
      exact ⟨rfl, Below.refl _ _⟩
  by_cases h2 : 4096 < s.size
  · go_enter Try.func7, Try.ntmps7
    go_wp2_with fail
    refine (zzb20 s w (by omega)).mono ?_
    rintro e w1 ⟨rfl, rfl⟩
    go_wp2_with fail
    go_ret
    exact ⟨rfl, Below.refl _ _⟩
  exact law7_main s w (by omega)
end Go.Proofs.Yteiemfmcoofdoaa
