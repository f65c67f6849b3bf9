/- What a writeTo method appends to a builder of the call's own, as a notion (Prints), and the builder's calls in that notion; Query.writeTo of a query that is one term; the methods String. Conditions: the text stays below 2^40 bytes. -/
import Derived.Test.YtejbdgkcoajpfaaDoorBld
set_option linter.unusedVariables false
namespace Go.Proofs.YtejbdgkcoajpfaaDoor
open Go.Shelf Go.RowKit

/-- A builder at block b, its own memory from block B on, that holds the bytes l. -/
def BB (B b : Nat) (l : List UInt8) (w : World) : Prop := Lib.IsBuilderF 85 5 B b (Lib.byteCells l) w ∧ B ≤ w.heap.size

/-- The call of function F at the pointer a and a builder appends f l behind l, in every world that still holds what w0 held. -/
def Prints (F : Nat) (w0 : World) (a : Addr) (f : List UInt8 → List UInt8) : Prop :=
  ∀ (B b : Nat) (l : List UInt8) (w : World), w0.heap.size ≤ B → Below w0.heap.size w0 w → BB B b l w → l.length + (f l).length ≤ 1099511627776 →
    Calls Tryd.prog F #[.pointer (some a), .pointer (some ⟨b, 0, none⟩)] w fun e w' => e = .returned (.tuple #[]) ∧ BB B b (l ++ f l) w' ∧ Below B w w'

theorem Prints.later {F : Nat} {w0 w1 : World} {a : Addr} {f : List UInt8 → List UInt8} (h : Prints F w0 a f) (hb : Below w0.heap.size w0 w1) : Prints F w1 a f :=
  fun B b l w hB hbw hbb hlen => h B b l w (Nat.le_trans hb.size hB) (hb.trans (hbw.mono hb.size)) hbb hlen

theorem Prints.congr {F : Nat} {w0 : World} {a : Addr} {f g : List UInt8 → List UInt8} (h : Prints F w0 a f) (e : ∀ l, f l = g l) : Prints F w0 a g := by
  have : f = g := funext e
  rw [← this]; exact h

theorem bb_WriteString (B b : Nat) (l : List UInt8) (s : ByteArray) (w : World) (h : BB B b l w) (hlen : l.length + s.data.toList.length ≤ 1099511627776) :
    Calls Tryd.prog 42 #[.pointer (some ⟨b, 0, none⟩), .string s] w fun e w' => e = .returned (.tuple #[.int .i64 s.size, .nilIface]) ∧ BB B b (l ++ s.data.toList) w' ∧ Below B w w' := by
  have hs := Lib.size_eq s
  refine (bld_WriteString B b _ s w h.1 (by rw [Lib.byteCells_length]; omega) h.2).mono ?_
  rintro e w' ⟨rfl, h1, hb, _⟩
  refine ⟨rfl, ⟨Or.inr ?_, Nat.le_trans h.2 hb.size⟩, hb⟩
  rw [Lib.strCells_eq, ← Lib.byteCells_append] at h1
  exact h1

theorem bb_WriteByte (B b : Nat) (l : List UInt8) (c : Int) (u : UInt8) (w : World) (h : BB B b l w) (hc : c = u.toNat) (hlen : l.length + 1 ≤ 1099511627776) :
    Calls Tryd.prog 50 #[.pointer (some ⟨b, 0, none⟩), .int .u8 c] w fun e w' => e = .returned .nilIface ∧ BB B b (l ++ [u]) w' ∧ Below B w w' := by
  refine (bld_WriteByte B b _ c w h.1 (by rw [Lib.byteCells_length]; omega) h.2).mono ?_
  rintro e w' ⟨rfl, h1, hb, _⟩
  refine ⟨rfl, ⟨Or.inr ?_, Nat.le_trans h.2 hb.size⟩, hb⟩
  rw [hc] at h1
  rw [Lib.byteCells_append]
  exact h1

theorem bb_String (B b : Nat) (l : List UInt8) (w : World) (h : BB B b l w) :
    Calls Tryd.prog 44 #[.pointer (some ⟨b, 0, none⟩)] w fun e w' => e = .returned (.string ⟨l.toArray⟩) ∧ BB B b l w' ∧ Below B w w' := by
  refine (Tryd.Builder_String_any_f B b l w h.1 h.2).mono ?_
  rintro e w' ⟨rfl, h1, hb⟩
  exact ⟨rfl, ⟨h1, Nat.le_trans h.2 hb.size⟩, hb⟩

theorem bb_Len (B b : Nat) (l : List UInt8) (w : World) (h : BB B b l w) :
    Calls Tryd.prog 67 #[.pointer (some ⟨b, 0, none⟩)] w fun e w' => e = .returned (.int .i64 l.length) ∧ w = w' := by
  refine (Tryd.Builder_Len_f B b _ w h.1).mono ?_
  rintro e w' ⟨rfl, rfl⟩
  rw [Lib.byteCells_length]
  exact ⟨rfl, rfl⟩

theorem bb_fresh (w : World) : BB w.heap.size w.heap.size [] (w.alloc (.cells #[.pointer none, .slice none 0 0] 85)) :=
  ⟨Lib.IsBuilderF.of (Lib.fresh_isBuilder 85 5 w), by simp⟩

theorem below_fresh (w : World) (o : Obj) : Below w.heap.size w (w.alloc o) := (Below.refl _ w).alloc (Nat.le_refl _) _

/-- Query.writeTo of a query that is one term. -/
theorem query_term (w0 : World) (q : Nat) (t : Addr) (f : List UInt8 → List UInt8) (hq : q < w0.heap.size)
    (c0 : w0.cell? ⟨q, 0, none⟩ = some (.pointer none)) (c1 : w0.cell? ⟨q, 1, none⟩ = some (.slice none 0 0)) (c2 : w0.cell? ⟨q, 2, none⟩ = some (.slice none 0 0)) (c3 : w0.cell? ⟨q, 3, none⟩ = some (.pointer (some t)))
    (ht : Prints 45 w0 t f) : Prints 46 w0 ⟨q, 0, none⟩ f := by
  intro B b l w hB hbw hbb hlen
  have d0 : w.cell? ⟨q, 0, none⟩ = some (.pointer none) := (hbw.cell (p := ⟨q, 0, none⟩) hq).trans c0
  have d1 : w.cell? ⟨q, 1, none⟩ = some (.slice none 0 0) := (hbw.cell (p := ⟨q, 1, none⟩) hq).trans c1
  have d2 : w.cell? ⟨q, 2, none⟩ = some (.slice none 0 0) := (hbw.cell (p := ⟨q, 2, none⟩) hq).trans c2
  have d3 : w.cell? ⟨q, 3, none⟩ = some (.pointer (some t)) := (hbw.cell (p := ⟨q, 3, none⟩) hq).trans c3
  clear c0 c1 c2 c3
  go_enter Tryd.func46, Tryd.ntmps46
  go_wp2
  refine wp_loop_rounds 1 ?_
  rw [rounds_succ]
  go_wp2
  refine wp_loop_rounds 1 ?_
  rw [rounds_succ]
  go_wp2_with fail
  refine (ht B b l _ hB hbw hbb hlen).mono ?_
  rintro e w1 ⟨rfl, h1, b1⟩
  go_wp2_with fail
  go_end0
  exact ⟨rfl, h1, b1⟩
end Go.Proofs.YtejbdgkcoajpfaaDoor
