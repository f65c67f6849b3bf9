/- What a writeTo method appends to a builder of the call's own, as a notion (Prints), and the builder's calls in that notion. Conditions: the text stays below 2^40 bytes. -/
import Derived.Test.YtinhadafmlplaaaDoorBld
set_option linter.unusedVariables false
namespace Go.Proofs.YtinhadafmlplaaaDoor
open Go.Shelf Go.RowKit

/-- A builder at block b, its own memory from block B on, that holds the bytes l. -/
def BB (B b : Nat) (l : List UInt8) (w : World) : Prop := Lib.IsBuilderF 38 5 B b (Lib.byteCells l) w ∧ B ≤ w.heap.size

/-- The call of function F at the pointer a and a builder appends f l behind l, in every world that still holds what w0 held. -/
def Prints (F : Nat) (w0 : World) (a : Addr) (f : List UInt8 → List UInt8) : Prop :=
  ∀ (B b : Nat) (l : List UInt8) (w : World), w0.heap.size ≤ B → Below w0.heap.size w0 w → BB B b l w → l.length + (f l).length ≤ 1099511627776 →
    Calls Tryd.prog F #[.pointer (some a), .pointer (some ⟨b, 0, none⟩)] w fun e w' => e = .returned (.tuple #[]) ∧ BB B b (l ++ f l) w' ∧ Below B w w'

theorem Prints.later {F : Nat} {w0 w1 : World} {a : Addr} {f : List UInt8 → List UInt8} (h : Prints F w0 a f) (hb : Below w0.heap.size w0 w1) : Prints F w1 a f :=
  fun B b l w hB hbw hbb hlen => h B b l w (Nat.le_trans hb.size hB) (hb.trans (hbw.mono hb.size)) hbb hlen

theorem Prints.congr {F : Nat} {w0 : World} {a : Addr} {f g : List UInt8 → List UInt8} (h : Prints F w0 a f) (e : ∀ l, f l = g l) : Prints F w0 a g := by
  have : f = g := funext e
  rw [← this]; exact h

theorem bb_WriteString (B b : Nat) (l : List UInt8) (s : ByteArray) (w : World) (h : BB B b l w) (hlen : l.length + s.data.toList.length ≤ 1099511627776) :
    Calls Tryd.prog 14 #[.pointer (some ⟨b, 0, none⟩), .string s] w fun e w' => e = .returned (.tuple #[.int .i64 s.size, .nilIface]) ∧ BB B b (l ++ s.data.toList) w' ∧ Below B w w' := by
  have hs := Lib.size_eq s
  refine (bld_WriteString B b _ s w h.1 (by rw [Lib.byteCells_length]; omega) h.2).mono ?_
  rintro e w' ⟨rfl, h1, hb, _⟩
  refine ⟨rfl, ⟨Or.inr ?_, Nat.le_trans h.2 hb.size⟩, hb⟩
  rw [Lib.strCells_eq, ← Lib.byteCells_append] at h1
  exact h1

theorem bb_WriteByte (B b : Nat) (l : List UInt8) (c : Int) (u : UInt8) (w : World) (h : BB B b l w) (hc : c = u.toNat) (hlen : l.length + 1 ≤ 1099511627776) :
    Calls Tryd.prog 25 #[.pointer (some ⟨b, 0, none⟩), .int .u8 c] w fun e w' => e = .returned .nilIface ∧ BB B b (l ++ [u]) w' ∧ Below B w w' := by
  refine (bld_WriteByte B b _ c w h.1 (by rw [Lib.byteCells_length]; omega) h.2).mono ?_
  rintro e w' ⟨rfl, h1, hb, _⟩
  refine ⟨rfl, ⟨Or.inr ?_, Nat.le_trans h.2 hb.size⟩, hb⟩
  rw [hc] at h1
  rw [Lib.byteCells_append]
  exact h1

theorem bb_String (B b : Nat) (l : List UInt8) (w : World) (h : BB B b l w) :
    Calls Tryd.prog 16 #[.pointer (some ⟨b, 0, none⟩)] w fun e w' => e = .returned (.string ⟨l.toArray⟩) ∧ BB B b l w' ∧ Below B w w' := by
  refine (Tryd.Builder_String_any_f B b l w h.1 h.2).mono ?_
  rintro e w' ⟨rfl, h1, hb⟩
  exact ⟨rfl, ⟨h1, Nat.le_trans h.2 hb.size⟩, hb⟩

theorem bb_fresh (w : World) : BB w.heap.size w.heap.size [] (w.alloc (.cells #[.pointer none, .slice none 0 0] 38)) :=
  ⟨Lib.IsBuilderF.of (Lib.fresh_isBuilder 38 5 w), by simp⟩

theorem below_fresh (w : World) (o : Obj) : Below w.heap.size w (w.alloc o) := (Below.refl _ w).alloc (Nat.le_refl _) _

theorem at_later {T e : TypeId} {B b : Nat} {p : Value} {bs : List Value} {w w' : World} (h : Lib.BuilderAtF T e B b p bs w) (hb : Below w.heap.size w w') : Lib.BuilderAtF T e B b p bs w' := by
  have hlt := h.lt
  obtain ⟨h1, v, h2, h3, h4⟩ := h
  have hg : w.grownBy w' none := ⟨hb.os, hb.tape, hb.output, hb.size, fun k hk _ => hb.block k hk⟩
  refine ⟨h1, v, (hb.block b hlt).trans h2, h3.kept hg ?_, h4⟩
  cases v.ownBlock with
  | none => exact Or.inl rfl
  | some x => exact Or.inr (by simp)
theorem BB.below {B b : Nat} {l : List UInt8} {w w' : World} (h : BB B b l w) (hb : Below w.heap.size w w') : BB B b l w' := by
  refine ⟨?_, Nat.le_trans h.2 hb.size⟩
  rcases h.1 with h1 | h1
  · exact Or.inl (at_later h1 hb)
  · exact Or.inr (at_later h1 hb)
/-- The block q stands as it was. -/
def Stays (q : Nat) (w w' : World) : Prop := ∀ xs t fz, w.heap[q]? = some (.cells xs t fz) → t ≠ 5 → w'.heap[q]? = some (.cells xs t fz)
theorem stays_of {b q : Nat} {w w' : World} (h : Lib.OthersKept 5 (some b) w w') (hq : q ≠ b) : Stays q w w' :=
  fun xs t fz hx ht => h q _ hx (by simpa using hq) (fun c fz' e => ht (by cases e; rfl))
theorem bbk_WriteString (B b q : Nat) (l : List UInt8) (s : ByteArray) (w : World) (hq : q ≠ b) (h : BB B b l w) (hlen : l.length + s.data.toList.length ≤ 1099511627776) :
    Calls Tryd.prog 14 #[.pointer (some ⟨b, 0, none⟩), .string s] w fun e w' => e = .returned (.tuple #[.int .i64 s.size, .nilIface]) ∧ BB B b (l ++ s.data.toList) w' ∧ Below B w w' ∧ Stays q w w' := by
  have hs := Lib.size_eq s
  refine (bld_WriteString B b _ s w h.1 (by rw [Lib.byteCells_length]; omega) h.2).mono ?_
  rintro e w' ⟨rfl, h1, hb, hk⟩
  refine ⟨rfl, ⟨Or.inr ?_, Nat.le_trans h.2 hb.size⟩, hb, stays_of hk hq⟩
  rw [Lib.strCells_eq, ← Lib.byteCells_append] at h1
  exact h1
theorem bbk_WriteByte (B b q : Nat) (l : List UInt8) (c : Int) (u : UInt8) (w : World) (hq : q ≠ b) (h : BB B b l w) (hc : c = u.toNat) (hlen : l.length + 1 ≤ 1099511627776) :
    Calls Tryd.prog 25 #[.pointer (some ⟨b, 0, none⟩), .int .u8 c] w fun e w' => e = .returned .nilIface ∧ BB B b (l ++ [u]) w' ∧ Below B w w' ∧ Stays q w w' := by
  refine (bld_WriteByte B b _ c w h.1 (by rw [Lib.byteCells_length]; omega) h.2).mono ?_
  rintro e w' ⟨rfl, h1, hb, hk⟩
  refine ⟨rfl, ⟨Or.inr ?_, Nat.le_trans h.2 hb.size⟩, hb, stays_of hk hq⟩
  rw [hc] at h1
  rw [Lib.byteCells_append]
  exact h1
end Go.Proofs.YtinhadafmlplaaaDoor
