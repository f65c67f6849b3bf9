/- The stack's methods as contracts: a stack of the call's own at block b, its list of pairs in a row of its own. Conditions: the list holds at most 2^21 pairs. -/
import Derived.Test.YteoaillidaglbaaRows
import Derived.Test.YteoaillidaglbaaPlain
import Derived.WalkKit
import Derived.WalkLawsBesides
import Derived.WalkSpells
import Derived.Handy
import Derived.Outline
import Derived.Lib.Hide
import Derived.RegionTactic
import Derived.Deep.RegionLaw
import Derived.Deep.AppendLies
import Derived.Deep.QuietTactic
import Derived.BigQuiet
set_option linter.unusedVariables false
namespace Go.Proofs.Yteoaillidaglbaa
open Go.RowKit

theorem Try.infoB : (Try.prog.info? 47).map (fun i => (i.zero, i.size, i.bytes)) = some (some (.agg #[.nilIface, .int .i64 0]), 2, 24) := by kernel_rfl
@[go_sem] theorem as3_3 (v : Value) (w : World) : (Instr.typeAssert (.iface 3 v) 20 3 false).run Try.prog w = .ok v w := by kernel_rfl

/-- The cells of a list of pairs. -/
def cellsOf : List (Int × Int) → List Value
  | [] => []
  | p :: r => .iface 3 (.int .i64 p.1) :: .int .i64 p.2 :: cellsOf r
theorem cellsOf_len (ds : List (Int × Int)) : (cellsOf ds).length = ds.length * 2 := by
  induction ds with
  | nil => rfl
  | cons p r ih => simp only [cellsOf, List.length_cons, ih]; omega
theorem cellsOf_at (ds : List (Int × Int)) : ∀ (k : Nat) (x n : Int), ds[k]? = some (x, n) → (cellsOf ds)[k * 2]? = some (.iface 3 (.int .i64 x)) ∧ (cellsOf ds)[k * 2 + 1]? = some (.int .i64 n) := by
  induction ds with
  | nil => intro k x n h; simp at h
  | cons p r ih =>
    intro k x n h
    match k, h with
    | 0, h => simp at h; subst h; simp [cellsOf]
    | k + 1, h =>
      have e : (k + 1) * 2 = k * 2 + 1 + 1 := by omega
      rw [e]
      simpa [cellsOf] using ih k x n (by simpa using h)
theorem cellsOf_append (a b : List (Int × Int)) : cellsOf (a ++ b) = cellsOf a ++ cellsOf b := by
  induction a with
  | nil => rfl
  | cons p r ih => simp [cellsOf, ih]
theorem cellsOf_set (ds : List (Int × Int)) : ∀ (k : Nat) (x n : Int), cellsOf (ds.set k (x, n)) = ((cellsOf ds).set (k * 2) (.iface 3 (.int .i64 x))).set (k * 2 + 1) (.int .i64 n) := by
  induction ds with
  | nil => intro k x n; simp [cellsOf]
  | cons p r ih =>
    intro k x n
    match k with
    | 0 => simp [cellsOf]
    | k + 1 =>
      have e : (k + 1) * 2 = k * 2 + 1 + 1 := by omega
      rw [e]
      simp [cellsOf, ih k x n]

/-- A stack at block b whose list of pairs is ds; v: the slice in its first field. -/
def Stk (w : World) (B b : Nat) (ds : List (Int × Int)) (idx lim : Int) (v : Value) : Prop :=
  w.heap[b]? = some (.cells #[v, .int .i64 idx, .int .i64 lim] 45 (0, 0)) ∧ B ≤ b ∧ w.ownsRow B 47 2 v ds.length (cellsOf ds)

/-- Block b and the row g aside, w' is as w was. -/
structure Only (b : Nat) (g : Option Nat) (w w' : World) : Prop where
  os : w'.os = w.os
  tape : w'.tape = w.tape
  output : w'.output = w.output
  size : w.heap.size ≤ w'.heap.size
  block : ∀ k, k < w.heap.size → k ≠ b → some k ≠ g → w'.heap[k]? = w.heap[k]?

section
variable {w w' : World} {B b : Nat} {ds : List (Int × Int)} {idx lim : Int} {v : Value}
theorem Stk.lt (h : Stk w B b ds idx lim v) : b < w.heap.size := by
  rcases Nat.lt_or_ge b w.heap.size with h' | h'
  · exact h'
  · have := h.1; simp [Array.getElem?_eq_none h'] at this
theorem Stk.c0 (h : Stk w B b ds idx lim v) : w.cell? ⟨b, 0, none⟩ = some v := by rw [cell_of_row _ _ _ _ _ _ h.1]; rfl
theorem Stk.c1 (h : Stk w B b ds idx lim v) : w.cell? ⟨b, 1, none⟩ = some (.int .i64 idx) := by rw [cell_of_row _ _ _ _ _ _ h.1]; rfl
theorem Stk.c2 (h : Stk w B b ds idx lim v) : w.cell? ⟨b, 2, none⟩ = some (.int .i64 lim) := by rw [cell_of_row _ _ _ _ _ _ h.1]; rfl
theorem Stk.fz (h : Stk w B b ds idx lim v) (j : Nat) : w.frozen? ⟨b, j, none⟩ = false := frozen_of_row _ _ _ _ _ h.1
theorem Stk.ne (h : Stk w B b ds idx lim v) : v.ownBlock ≠ some b := by
  rcases h.2.2.2 with ⟨hv, _⟩ | ⟨g, cap, cur, hv, _, hg, _⟩
  · rw [hv]; simp [Value.ownBlock]
  · rw [hv]
    intro e
    have : g = b := by simpa [Value.ownBlock] using e
    subst this
    rw [h.1] at hg
    injection hg with hg
    injection hg with _ ht
    exact absurd ht (by decide)
theorem Only.refl (b : Nat) (g : Option Nat) (w : World) : Only b g w w := ⟨rfl, rfl, rfl, Nat.le_refl _, fun _ _ _ _ => rfl⟩
theorem Only.below {g : Option Nat} {a : World} (h : Only b g w w') (hb : Below B a w) (hB : B ≤ w.heap.size) (h1 : B ≤ b) (h2 : ∀ k, g = some k → B ≤ k) : Below B a w' :=
  ⟨h.os.trans hb.os, h.tape.trans hb.tape, h.output.trans hb.output, Nat.le_trans hb.size h.size, fun k hk => (h.block k (by omega) (by omega) (fun e => by have := h2 k e.symm; omega)).trans (hb.block k hk)⟩
theorem own_setCell {e : TypeId} {size n : Nat} {xs : List Value} (h : w.ownsRow B e size v n xs) {p : Addr} (hp : v.ownBlock ≠ some p.block) (u : Value) : (w.setCell p u).ownsRow B e size v n xs := by
  refine ⟨h.1, ?_⟩
  rcases h.2 with h2 | ⟨g, cap, cur, hv, hg, hh, r⟩
  · exact Or.inl h2
  · refine Or.inr ⟨g, cap, cur, hv, hg, ?_, r⟩
    rw [Below.heap_setCell _ _ _ _ (fun e => hp (by rw [hv, ← e]; rfl))]
    exact hh
theorem Stk.set1 (h : Stk w B b ds idx lim v) (i : Int) : Stk (w.setCell ⟨b, 1, none⟩ (.int .i64 i)) B b ds i lim v :=
  ⟨by rw [heap_setCell_same _ _ _ _ _ _ h.1]; rfl, h.2.1, own_setCell h.2.2 h.ne _⟩
theorem Stk.set2 (h : Stk w B b ds idx lim v) (l : Int) : Stk (w.setCell ⟨b, 2, none⟩ (.int .i64 l)) B b ds idx l v :=
  ⟨by rw [heap_setCell_same _ _ _ _ _ _ h.1]; rfl, h.2.1, own_setCell h.2.2 h.ne _⟩
theorem Stk.drewN (h : Stk w B b ds idx lim v) (n : Nat) : Stk (w.drewN n) B b ds idx lim v := h
theorem Stk.alloc (h : Stk w B b ds idx lim v) (o : Obj) : Stk (w.alloc o) B b ds idx lim v :=
  ⟨(Below.heap_alloc w o b h.lt).trans h.1, h.2.1, h.2.2.alloc o⟩
theorem Only.drewN {g : Option Nat} {a : World} (h : Only b g a w) (n : Nat) : Only b g a (w.drewN n) := ⟨h.os, h.tape, h.output, h.size, h.block⟩
theorem Only.drew {g : Option Nat} {a : World} (h : Only b g a w) : Only b g a w.drew := ⟨h.os, h.tape, h.output, h.size, h.block⟩
theorem Only.alloc {g : Option Nat} {a : World} (h : Only b g a w) (o : Obj) : Only b g a (w.alloc o) :=
  ⟨h.os, h.tape, h.output, Nat.le_trans h.size (by simp), fun k hk h1 h2 => (Below.heap_alloc w o k (Nat.lt_of_lt_of_le hk h.size)).trans (h.block k hk h1 h2)⟩
theorem Only.set {g : Option Nat} {a : World} (h : Only b g a w) (j : Nat) (u : Value) : Only b g a (w.setCell ⟨b, j, none⟩ u) :=
  ⟨h.os, h.tape, h.output, by simpa [World.setCell] using h.size, fun k hk h1 h2 => (Below.heap_setCell w _ u k h1).trans (h.block k hk h1 h2)⟩
end

theorem new_any (w : World) : Calls Try.prog 8 #[] w fun e w' => e = .returned (.pointer (some ⟨w.heap.size, 0, none⟩)) ∧ Stk w' w.heap.size w.heap.size [] (-1) (-1) (.slice none 0 0) ∧ Below w.heap.size w w' := by
  go_enter Try.func8, Try.ntmps8
  go_wp2
  go_ret
  exact ⟨rfl, ⟨heap_alloc_new _ _, Nat.le_refl _, World.ownsRow_nil _ _ _ _⟩, (Below.refl _ _).alloc (Nat.le_refl _) _⟩

theorem empty_any (w : World) (B b : Nat) (ds : List (Int × Int)) (idx lim : Int) (v : Value) (h : Stk w B b ds idx lim v) :
    Calls Try.prog 13 #[.pointer (some ⟨b, 0, none⟩)] w fun e w' => e = .returned (.bool (decide (idx < 0))) ∧ w = w' := by
  have c1 := h.c1
  go_enter Try.func13, Try.ntmps13
  go_wp2
  go_ret
  exact ⟨rfl, rfl⟩

theorem restore_any (w : World) (B b : Nat) (ds : List (Int × Int)) (idx lim : Int) (v : Value) (i l : Int) (h : Stk w B b ds idx lim v) :
    Calls Try.prog 15 #[.pointer (some ⟨b, 0, none⟩), .int .i64 i, .int .i64 l] w fun e w' => e = .returned (.tuple #[]) ∧ Stk w' B b ds i l v ∧ Only b none w w' := by
  have c1 := h.c1
  have c2 := h.c2
  have f1 := h.fz 1
  have f2 := h.fz 2
  go_enter Try.func15, Try.ntmps15
  go_wp2
  go_end0
  exact ⟨rfl, (h.set1 i).set2 l, ((Only.refl _ _ _).set _ _).set _ _⟩

theorem save_any (w : World) (B b : Nat) (ds : List (Int × Int)) (idx lim : Int) (v : Value) (h : Stk w B b ds idx lim v) :
    Calls Try.prog 9 #[.pointer (some ⟨b, 0, none⟩)] w fun e w' => e = .returned (.tuple #[.int .i64 idx, .int .i64 lim]) ∧ Stk w' B b ds idx (max lim idx) v ∧ Only b none w w' := by
  have c1 := h.c1
  have c2 := h.c2
  have f2 := h.fz 2
  by_cases hlt : lim < idx
  · have e : max lim idx = idx := by omega
    have E := Lib.hid e
    clear e
    go_enter Try.func9, Try.ntmps9
    go_wp2
    go_quiet (fail)
    go_wp2
    go_quiet (fail)
    go_wp2
    go_ret2
    rw [E.out]
    exact ⟨rfl, h.set2 idx, ((Only.refl _ _ _).set _ _).drewN _⟩
  · have e : max lim idx = lim := by omega
    have E := Lib.hid e
    clear e
    go_enter Try.func9, Try.ntmps9
    go_wp2
    go_quiet (fail)
    go_wp2
    go_quiet (fail)
    go_wp2
    go_ret2
    rw [E.out]
    exact ⟨rfl, h, (Only.refl _ _ _).drewN _⟩

theorem pop_any (w : World) (B b : Nat) (ds : List (Int × Int)) (idx lim : Int) (v : Value) (x nx : Int) (h : Stk w B b ds idx lim v) (hi : 0 ≤ idx) (hp : ds[idx.toNat]? = some (x, nx)) (hlen : ds.length ≤ 2097152) :
    Calls Try.prog 14 #[.pointer (some ⟨b, 0, none⟩)] w fun e w' => e = .returned (.int .i64 x) ∧ Stk w' B b ds nx lim v ∧ Only b none w w' := by
  have c0 := h.c0
  have c1 := h.c1
  have f1 := h.fz 1
  have hlt : idx.toNat < ds.length := (List.getElem?_eq_some_iff.1 hp).1
  obtain ⟨g, cap, rfl, hBg, hgl⟩ := h.2.2.form (by omega)
  obtain ⟨k, rfl⟩ : ∃ k : Nat, idx = (k : Int) := ⟨idx.toNat, by omega⟩
  have hk : k < ds.length := by simpa using hlt
  obtain ⟨q0, q1⟩ := cellsOf_at ds k x nx (by simpa using hp)
  have d0 := (h.2.2.cellAt (k * 2) (by omega)).trans q0
  have d1 := (h.2.2.cellAt (k * 2 + 1) (by omega)).trans q1
  have hncap : ds.length ≤ cap := by
    rcases h.2.2.2 with ⟨hv, _⟩ | ⟨g', cap', cur, hv, _, _, hc, _⟩
    · cases hv
    · cases hv; exact hc
  clear hp hlt q0 q1
  have hbl := h.lt
  go_enter Try.func14, Try.ntmps14
  go_wp2
  go_region
  go_wp2
  go_ret
  exact ⟨rfl, (h.set1 nx).alloc _, (((Only.refl _ _ _).set _ _).alloc _).drew⟩

theorem ne_of_own {w : World} {B b g n cap : Nat} {ds : List (Int × Int)} {idx lim : Int} (h : Stk w B b ds idx lim (.slice (some ⟨g, 0, none⟩) n cap)) : g ≠ b := fun e => h.ne (by rw [← e]; rfl)

theorem Stk.setPair {w : World} {B b g cap : Nat} {ds : List (Int × Int)} {idx lim : Int} (h : Stk w B b ds idx lim (.slice (some ⟨g, 0, none⟩) ds.length cap)) (j : Nat) (x n : Int) :
    Stk ((w.setCell ⟨g, j * 2, none⟩ (.iface 3 (.int .i64 x))).setCell ⟨g, j * 2 + 1, none⟩ (.int .i64 n)) B b (ds.set j (x, n)) idx lim (.slice (some ⟨g, 0, none⟩) ds.length cap) := by
  have hne := ne_of_own h
  refine ⟨?_, h.2.1, ?_⟩
  · rw [Below.heap_setCell _ _ _ _ (fun e => hne e.symm), Below.heap_setCell _ _ _ _ (fun e => hne e.symm)]
    exact h.1
  · rw [List.length_set, cellsOf_set]
    exact ((h.2.2.stored (j * 2) _).1.stored (j * 2 + 1) _).1
theorem Only.setRow {b g : Nat} {a w : World} (h : Only b (some g) a w) (j : Nat) (u : Value) : Only b (some g) a (w.setCell ⟨g, j, none⟩ u) :=
  ⟨h.os, h.tape, h.output, by simpa [World.setCell] using h.size, fun k hk h1 h2 => (Below.heap_setCell w _ u k (fun e => h2 (by rw [e]))).trans (h.block k hk h1 h2)⟩

end Go.Proofs.Yteoaillidaglbaa
