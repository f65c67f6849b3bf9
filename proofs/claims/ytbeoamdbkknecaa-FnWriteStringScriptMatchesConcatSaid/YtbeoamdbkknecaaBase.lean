/- The limited writer: a state (the bytes written so far), and the contracts of its maker, Write, WriteByte, WriteString and Bytes. Conditions: what is written stays below the capacity, which is at most 65536. -/
import Derived.Test.YtbeoamdbkknecaaRows
import Derived.WalkKit
import Derived.WalkLawsBesides
import Derived.WalkSpells
import Derived.Handy
import Derived.Outline
import Derived.Below
import Derived.PlainAid
import Derived.Lib.Hide
import Derived.Lib.LazyBuf
import Derived.Deep.OwnRows
import Derived.Laws.CopyOwn
import Derived.Deep.RegionLaw
import Derived.RegionTactic
import Derived.Deep.QuietTactic
import Derived.BigQuiet
set_option linter.unusedVariables false
namespace Go.Proofs.Ytbeoamdbkknecaa
open Go.RowKit

theorem Try.info5 : (Try.prog.info? 5).map (fun i => (i.zero, i.size, i.bytes)) = some (some (.int .u8 0), 1, 1) := by kernel_rfl
theorem Try.size5 : (Try.prog.info? 5).map (·.size) = some 1 := by kernel_rfl
theorem Try.sizeOf5 (w : World) : (Go.sizeOf 5).run Try.prog w = .ok 1 w := by kernel_rfl

/-- Two rows of different types are different blocks. -/
theorem rowIs_ne {w : World} {b b' t t' n n' : Nat} {f f' : Nat → Value} (h : w.rowIs b t n f) (h' : w.rowIs b' t' n' f') (ht : t ≠ t') : b ≠ b' := by
  rintro rfl
  obtain ⟨c, hb, _⟩ := h
  obtain ⟨c', hb', _⟩ := h'
  rw [hb] at hb'
  injection hb' with hb'
  injection hb' with _ e
  exact ht e
theorem rowIs_grown {w w' : World} {b t n g : Nat} {f : Nat → Value} (h : w.rowIs b t n f) (hg : w.grownBy w' (some g)) (hne : b ≠ g) : w'.rowIs b t n f :=
  h.of_block (hg.block b h.lt (fun e => hne (by injection e)))
theorem grown_set (w : World) (b o : Nat) (u : Value) : w.grownBy (w.setCell ⟨b, o, none⟩ u) (some b) :=
  ⟨rfl, rfl, rfl, by simp [World.setCell], fun i hi hne => Below.heap_setCell w _ u i (fun e => hne (by rw [e]))⟩
theorem grown_cells (b : Nat) : ∀ (vs : List Value) (o : Nat) (w : World), w.grownBy (w.setCells b o vs) (some b)
  | [], _, w => ⟨rfl, rfl, rfl, Nat.le_refl _, fun _ _ _ => rfl⟩
  | v :: r, o, w => by
    have h1 := grown_set w b o v
    have h2 := grown_cells b r (o + 1) (w.setCell ⟨b, o, none⟩ v)
    exact ⟨h2.os.trans h1.os, h2.tape.trans h1.tape, h2.output.trans h1.output, Nat.le_trans h1.size h2.size, fun k hk hne => (h2.block k (Nat.lt_of_lt_of_le hk h1.size) hne).trans (h1.block k hk hne)⟩

/-- copy of a string into a row, as one step of a region that draws. -/
theorem step_copy_str {ops : Array Oper} {o : Oper} {a : Act} {w : World} {K : Act → World → Prop} {Q : Exit → Act → World → Prop} {E : Prop}
    (hg : o.guard = none) (d x : Operand) (hop : o.op = Op.call { callee := Callee.builtin Builtin.copy, args := #[d, x], argTypes := #[30, 9] })
    (g off dLen dCap N : Nat) (F : Nat → Value) (hd : a.eval d = .slice (some ⟨g, off, none⟩) dLen dCap) (s : ByteArray) (hx : a.eval x = .string s) (hle : s.size ≤ dLen) (hrow : w.rowIs g 5 N F) (hfit : off + s.size ≤ N)
    (hK : ∀ w', w'.rowIs g 5 N (fun j => if off ≤ j ∧ j < off + s.size then .int .u8 (PlainAid.bt s (j - off)) else F j) → w.grownBy w' (some g) → K (a.put o.dst (.int .i64 s.size)) w') :
    if Region.wanted o (yielded ops a.tmps) = true then Oper.wp Try.prog o a w K Q else E := by
  have hl : (s.data.toList.map fun x => Value.int .u8 (x.toNat : Int)).length = s.size := by rw [List.length_map, ← Lib.size_eq]
  refine step_copy_string hg d x 30 9 hop 5 Try.underlying30 Try.sizeOf5 g off dLen dCap hd s hx hle (fun j hj => by rw [hrow.cell (by omega)]; rfl) (fun j _ => hrow.frozen _) ?_
  refine hK _ ((rowIs_setCells _ off w F hrow).congr (fun j hj => ?_)) (grown_cells g _ off w)
  rw [hl]
  by_cases e : off ≤ j ∧ j < off + s.size
  · rw [if_pos e, if_pos e]
    have hk : j - off < s.size := by omega
    have hk2 : j - off < s.data.toList.length := by rw [← Lib.size_eq]; exact hk
    rw [List.getElem?_map, List.getElem?_eq_getElem hk2]
    show Value.int .u8 (((s.data.toList[j - off]).toNat : Nat) : Int) = _
    unfold PlainAid.bt
    rw [dif_pos hk]
    rfl
  · rw [if_neg e, if_neg e]

theorem splice_at (cur cs : List Value) (off m : Nat) (hcs : cs.length = m) (hfit : off + m ≤ cur.length) (j : Nat) : (cur.take off ++ (cs ++ cur.drop (off + m)))[j]? = if off ≤ j ∧ j < off + m then cs[j - off]? else cur[j]? := by
  by_cases h1 : j < off
  · rw [if_neg (by omega), List.getElem?_append_left (by rw [List.length_take]; omega), List.getElem?_take, if_pos h1]
  · have ht : (cur.take off).length = off := by rw [List.length_take]; omega
    rw [List.getElem?_append_right (by omega), ht]
    by_cases h2 : j < off + m
    · rw [if_pos (by omega), List.getElem?_append_left (by omega)]
    · rw [if_neg (by omega), List.getElem?_append_right (by omega), List.getElem?_drop]
      congr 1
      omega

/-- copy of a slice into a row, as one step of a region that draws; the source may be nil or empty. -/
theorem step_copy_slice {ops : Array Oper} {o : Oper} {a : Act} {w : World} {K : Act → World → Prop} {Q : Exit → Act → World → Prop} {E : Prop}
    (hgd : o.guard = none) (d x : Operand) (hop : o.op = Op.call { callee := Callee.builtin Builtin.copy, args := #[d, x], argTypes := #[30, 30] })
    (g off dLen dCap N m c : Nat) (F : Nat → Value) (f : Nat → Int) (sp : Option Addr) (hd : a.eval d = .slice (some ⟨g, off, none⟩) dLen dCap) (hx : a.eval x = .slice sp m c) (hle : m ≤ dLen) (hrow : w.rowIs g 5 N F) (hfit : off + m ≤ N)
    (hsrc : m = 0 ∨ ∃ ad, sp = some ad ∧ ∀ j, j < m → w.cell? (ad.add j) = some (.int .u8 (f j)))
    (hK : ∀ w', w'.rowIs g 5 N (fun j => if off ≤ j ∧ j < off + m then .int .u8 (f (j - off)) else F j) → w.grownBy w' (some g) → K (a.put o.dst (.int .i64 m)) w') :
    if Region.wanted o (yielded ops a.tmps) = true then Oper.wp Try.prog o a w K Q else E := by
  have hw : Region.wanted o (yielded ops a.tmps) = true := by simp [Region.wanted, hgd]
  rw [if_pos hw]
  by_cases h0 : m = 0
  · subst h0
    have hrun := run_copy_none (P := Try.prog) w 30 30 o.type 5 (some ⟨g, off, none⟩) sp dLen dCap 0 c Try.underlying30 Try.size5 (by simp)
    unfold Oper.wp
    simp [execOp, hop, resolve, invoke, builtin, hd, hx, hrun, Result.andThen]
    exact hK w (hrow.congr (fun j _ => by rw [if_neg (by omega)])) ⟨rfl, rfl, rfl, Nat.le_refl _, fun _ _ _ => rfl⟩
  · obtain ⟨ad, rfl, hc⟩ := hsrc.resolve_left h0
    obtain ⟨cur, hb, hn, hcur⟩ := hrow
    have hL : ((List.range m).map (fun j => Value.int .u8 (f j))).length = m := by simp
    have hrun := run_copy_row (P := Try.prog) w 30 30 o.type 5 g off dLen dCap ad m c cur 5 ((List.range m).map (fun j => Value.int .u8 (f j))) Try.underlying30 Try.size5 hb (by rw [hL]; exact (Nat.min_eq_left hle).symm) (fun j v hj => by
      rw [List.getElem?_map] at hj
      obtain ⟨k, hk, rfl⟩ := Option.map_eq_some_iff.1 hj
      obtain ⟨hlt, e⟩ := List.getElem?_eq_some_iff.1 hk
      simp at e hlt
      subst e
      exact hc _ hlt) (by rw [hL]; omega) (fun v hv => by obtain ⟨_, _, rfl⟩ := List.mem_map.1 hv; rfl)
    rw [hL] at hrun
    unfold Oper.wp
    simp [execOp, hop, resolve, invoke, builtin, hd, hx, hrun, Result.andThen]
    refine hK _ ?_ ⟨rfl, rfl, rfl, by simp, fun k _ hk => setRow_other w g k _ (fun e => hk (by rw [e]))⟩
    refine ⟨_, setRow_heap w g cur _ 5 _ hb, ?_, fun j hj => ?_⟩
    · simp; omega
    · have hk := splice_at cur.toList ((List.range m).map (fun j => Value.int .u8 (f j))) off m hL (by simp; omega) j
      have hr : (cur.toList.take off ++ (List.range m).map (fun j => Value.int .u8 (f j)) ++ cur.toList.drop (off + m)).toArray[j]? = some (if off ≤ j ∧ j < off + m then .int .u8 (f (j - off)) else F j) := by
        rw [List.getElem?_toArray, List.append_assoc, hk]
        by_cases e : off ≤ j ∧ j < off + m
        · rw [if_pos e, if_pos e, List.getElem?_map, List.getElem?_range (by omega)]; rfl
        · rw [if_neg e, if_neg e, Array.getElem?_toList, hcur j hj]
      simpa using hr
end Go.Proofs.Ytbeoamdbkknecaa
