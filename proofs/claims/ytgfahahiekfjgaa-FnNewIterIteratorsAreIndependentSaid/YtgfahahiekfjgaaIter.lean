/- The iterators: NewIter[int] and Next at each of its dynamic types, in the notion IterIs (k of n values have been yielded). Conditions: at most 2^20 elements. -/
import Derived.Test.YtgfahahiekfjgaaBase
set_option linter.unusedVariables false
namespace Go.Proofs.Ytgfahahiekfjgaa
open Go.RowKit

/-- A slice that can be read: nil, or an address whose first n cells hold the numbers f. -/
def Readable (w : World) (a : Option Addr) (n c : Nat) (f : Nat → Int) : Prop :=
  (a = none ∧ n = 0 ∧ c = 0) ∨ ∃ x, a = some x ∧ ∀ i, i < n → w.cell? (x.add i) = some (.int .i64 (f i))
/-- A slice that cloneInts made: nil, or a row of its own from block B on. -/
def SRow (w : World) (B : Nat) (a : Option Addr) (n c : Nat) (f : Nat → Int) : Prop :=
  (a = none ∧ n = 0 ∧ c = 0) ∨ ∃ g, B ≤ g ∧ a = some ⟨g, 0, none⟩ ∧ c = n ∧ w.rowIs g 3 n (fun i => .int .i64 (f i))

theorem SRow.readable {w : World} {B : Nat} {a : Option Addr} {n c : Nat} {f : Nat → Int} (h : SRow w B a n c f) : Readable w a n c f := by
  rcases h with h | ⟨g, _, rfl, _, hr⟩
  · exact Or.inl h
  · exact Or.inr ⟨_, rfl, fun i hi => by rw [Go.WideShapes.add_plain, Nat.zero_add]; exact hr.cell hi⟩
theorem SRow.below {w w' : World} {B C : Nat} {a : Option Addr} {n c : Nat} {f : Nat → Int} (h : SRow w B a n c f) (hb : Below C w w') (hC : w.heap.size ≤ C) : SRow w' B a n c f := by
  rcases h with h | ⟨g, h1, h2, h3, hr⟩
  · exact Or.inl h
  · exact Or.inr ⟨g, h1, h2, h3, hr.of_block (hb.block g (Nat.lt_of_lt_of_le hr.lt hC))⟩
theorem SRow.grown {w w' : World} {B b : Nat} {a : Option Addr} {n c : Nat} {f : Nat → Int} (h : SRow w B a n c f) (hb : w.grownBy w' (some b)) (hne : ∀ g, a = some ⟨g, 0, none⟩ → g ≠ b) : SRow w' B a n c f := by
  rcases h with h | ⟨g, h1, h2, h3, hr⟩
  · exact Or.inl h
  · exact Or.inr ⟨g, h1, h2, h3, hr.of_block (hb.block g hr.lt (fun e => hne g h2 (by injection e)))⟩

/-- cloneInts. -/
theorem clone_any (a : Option Addr) (n c : Nat) (f : Nat → Int) (w : World) (hn : n ≤ 1048576) (h : Readable w a n c f) :
    Calls Try.prog 14 #[.slice a n c] w fun e w' => ∃ a' c', e = .returned (.slice a' n c') ∧ SRow w' w.heap.size a' n c' f ∧ Below w.heap.size w w' := by
  rcases h with ⟨rfl, rfl, rfl⟩ | ⟨x, rfl, hx⟩
  · refine (clone_nil w).mono ?_
    rintro e w' ⟨rfl, rfl⟩
    exact ⟨none, 0, rfl, Or.inl ⟨rfl, rfl, rfl⟩, Below.refl _ _⟩
  · refine (clone_some x n c f w hn hx).mono ?_
    rintro e w' ⟨rfl, hr, hb⟩
    exact ⟨_, _, rfl, Or.inr ⟨_, Nat.le_refl _, rfl, rfl, hr⟩, hb⟩

/-- A slice iterator at block b: k of n values have been taken. -/
def SliceSt (w : World) (b n k : Nat) (f : Nat → Int) : Prop :=
  k ≤ n ∧ ∃ a, w.rowIs b 48 1 (fun _ => .slice a (n - k) (n - k)) ∧ (k < n → ∃ g, a = some ⟨g, k, none⟩ ∧ g ≠ b ∧ w.rowIs g 3 n (fun i => .int .i64 (f i)))
/-- A unit iterator at block b that holds v. -/
def UnitSt (w : World) (b : Nat) (v : Value) (done : Bool) : Prop := w.rowIs b 45 2 (fun i => if i = 0 then v else .bool done)

theorem grown_setCell (w : World) (b o : Nat) (u : Value) : w.grownBy (w.setCell ⟨b, o, none⟩ u) (some b) :=
  ⟨rfl, rfl, rfl, by simp [World.setCell], fun i hi hne => Below.heap_setCell w _ u i (fun e => hne (by rw [e]))⟩

theorem unit_yes (w : World) (b : Nat) (v : Value) (h : UnitSt w b v false) :
    Calls Try.prog 11 #[.pointer (some ⟨b, 0, none⟩)] w fun e w' => e = .returned (.tuple #[v, .bool true]) ∧ UnitSt w' b v true ∧ w.grownBy w' (some b) := by
  have c0 := h.cell (i := 0) (by omega)
  have c1 := h.cell (i := 1) (by omega)
  have f1 := h.frozen 1
  simp only [if_true, if_neg (show ¬ (1 : Nat) = 0 by omega)] at c0 c1
  go_enter Try.func11, Try.ntmps11
  go_wp2
  go_ret2
  refine ⟨rfl, (World.rowIs.set h 1 (.bool true)).congr (fun j hj => ?_), grown_setCell _ _ _ _⟩
  by_cases e : j = 1
  · subst e; simp
  · have : j = 0 := by omega
    subst this; simp
theorem unit_no (w : World) (b : Nat) (v : Value) (h : UnitSt w b v true) :
    Calls Try.prog 11 #[.pointer (some ⟨b, 0, none⟩)] w fun e w' => e = .returned (.tuple #[.nilIface, .bool false]) ∧ w = w' := by
  have c1 := h.cell (i := 1) (by omega)
  simp only [if_neg (show ¬ (1 : Nat) = 0 by omega)] at c1
  go_enter Try.func11, Try.ntmps11
  go_wp2
  go_ret2
  exact ⟨rfl, rfl⟩

theorem slice_no (w : World) (b n : Nat) (f : Nat → Int) (h : SliceSt w b n n f) :
    Calls Try.prog 20 #[.pointer (some ⟨b, 0, none⟩)] w fun e w' => e = .returned (.tuple #[.nilIface, .bool false]) ∧ w = w' := by
  obtain ⟨_, a, hr, _⟩ := h
  have c0 := hr.cell (i := 0) (by omega)
  simp only [Nat.sub_self] at c0
  clear hr
  go_enter Try.func20, Try.ntmps20
  go_wp2
  go_ret2
  exact ⟨rfl, rfl⟩

theorem slice_yes (w : World) (b n k : Nat) (f : Nat → Int) (hn : n ≤ 1048576) (hk : k < n) (h : SliceSt w b n k f) :
    Calls Try.prog 20 #[.pointer (some ⟨b, 0, none⟩)] w fun e w' => e = .returned (.tuple #[.iface 3 (.int .i64 (f k)), .bool true]) ∧ SliceSt w' b n (k + 1) f ∧ w.grownBy w' (some b) := by
  obtain ⟨_, a, hr, ha⟩ := h
  obtain ⟨g, rfl, hne, hg⟩ := ha hk
  have c0 := hr.cell (i := 0) (by omega)
  have fz := hr.frozen 0
  have ck := hg.cell hk
  obtain ⟨m, hm⟩ : ∃ m, m + 1 = n - k := ⟨n - k - 1, by omega⟩
  rw [← hm] at c0
  have HM := Lib.hid hm
  clear hm ha
  by_cases h0 : m = 0
  · subst h0
    go_enter Try.func20, Try.ntmps20
    go_wp2
    go_ret2
    refine ⟨rfl, ⟨by omega, some ⟨g, k, none⟩, (hr.set 0 _).congr (fun j hj => ?_), fun hlt => absurd hlt (by have := HM.out; omega)⟩, grown_setCell _ _ _ _⟩
    have e : n - (k + 1) = 0 := by have := HM.out; omega
    obtain rfl : j = 0 := by omega
    rw [if_pos rfl, e]
  · go_enter Try.func20, Try.ntmps20
    go_wp2
    go_ret2
    refine ⟨rfl, ⟨by omega, _, (hr.set 0 _).congr (fun j hj => ?_), fun hlt => ⟨g, rfl, hne, hg.setOther (a := ⟨b, 0, none⟩) hne _⟩⟩, grown_setCell _ _ _ _⟩
    have e : n - (k + 1) = m := by have := HM.out; omega
    obtain rfl : j = 0 := by omega
    rw [if_pos rfl, e]

/-- An interface value of type Iter whose state lies at block b: k of n values f have been yielded. -/
def IterIs (w : World) (b : Nat) (v : Value) (n k : Nat) (f : Nat → Int) : Prop :=
  (n = 0 ∧ k = 0 ∧ v = .iface 47 (.agg #[])) ∨
  (n = 1 ∧ k ≤ 1 ∧ v = .iface 22 (.pointer (some ⟨b, 0, none⟩)) ∧ UnitSt w b (.iface 3 (.int .i64 (f 0))) (decide (k = 1))) ∨
  (v = .iface 35 (.pointer (some ⟨b, 0, none⟩)) ∧ SliceSt w b n k f)

theorem inv_empty (w : World) : (invoke (.fn (.method "Next") #[]) #[.iface 47 (.agg #[])]).run Try.prog w = .ok (.enter 28 #[.agg #[]]) w := by kernel_rfl
theorem inv_unit (p : Addr) (w : World) : (invoke (.fn (.method "Next") #[]) #[.iface 22 (.pointer (some p))]).run Try.prog w = .ok (.enter 11 #[.pointer (some p)]) w := by kernel_rfl
theorem inv_slice (p : Addr) (w : World) : (invoke (.fn (.method "Next") #[]) #[.iface 35 (.pointer (some p))]).run Try.prog w = .ok (.enter 20 #[.pointer (some p)]) w := by kernel_rfl

theorem empty_next (w : World) : Calls Try.prog 28 #[.agg #[]] w fun e w' => e = .returned (.tuple #[.nilIface, .bool false]) ∧ Below w.heap.size w w' := by
  go_enter Try.func28, Try.ntmps28
  go_wp2
  go_ret2
  exact ⟨rfl, (Below.refl _ _).alloc (Nat.le_refl _) _⟩

/-- Next while a value is left. -/
theorem next_yes (w : World) (b : Nat) (v : Value) (n k : Nat) (f : Nat → Int) (hn : n ≤ 1048576) (h : IterIs w b v n k f) (hk : k < n) :
    ∃ F args, (invoke (.fn (.method "Next") #[]) #[v]).run Try.prog w = .ok (.enter F args) w ∧
      Calls Try.prog F args w fun e w' => e = .returned (.tuple #[.iface 3 (.int .i64 (f k)), .bool true]) ∧ IterIs w' b v n (k + 1) f ∧ w.grownBy w' (some b) := by
  rcases h with ⟨rfl, _⟩ | ⟨rfl, _, rfl, hu⟩ | ⟨rfl, hs⟩
  · omega
  · obtain rfl : k = 0 := by omega
    refine ⟨_, _, inv_unit _ _, (unit_yes w b _ hu).mono ?_⟩
    rintro e w' ⟨rfl, h1, h2⟩
    exact ⟨rfl, Or.inr (Or.inl ⟨rfl, by omega, rfl, h1⟩), h2⟩
  · refine ⟨_, _, inv_slice _ _, (slice_yes w b n k f hn hk hs).mono ?_⟩
    rintro e w' ⟨rfl, h1, h2⟩
    exact ⟨rfl, Or.inr (Or.inr ⟨rfl, h1⟩), h2⟩
/-- Next when none is left. -/
theorem next_no (w : World) (b : Nat) (v : Value) (n : Nat) (f : Nat → Int) (h : IterIs w b v n n f) :
    ∃ F args, (invoke (.fn (.method "Next") #[]) #[v]).run Try.prog w = .ok (.enter F args) w ∧
      Calls Try.prog F args w fun e w' => e = .returned (.tuple #[.nilIface, .bool false]) ∧ IterIs w' b v n n f ∧ Below w.heap.size w w' := by
  rcases h with ⟨rfl, _, rfl⟩ | ⟨rfl, h1, rfl, hu⟩ | ⟨rfl, hs⟩
  · exact ⟨_, _, inv_empty _, (empty_next w).mono fun e w' ⟨he, hb⟩ => ⟨he, Or.inl ⟨rfl, rfl, rfl⟩, hb⟩⟩
  · refine ⟨_, _, inv_unit _ _, (unit_no w b _ hu).mono ?_⟩
    rintro e w' ⟨rfl, rfl⟩
    exact ⟨rfl, Or.inr (Or.inl ⟨rfl, h1, rfl, hu⟩), Below.refl _ _⟩
  · refine ⟨_, _, inv_slice _ _, (slice_no w b n f hs).mono ?_⟩
    rintro e w' ⟨rfl, rfl⟩
    exact ⟨rfl, Or.inr (Or.inr ⟨rfl, hs⟩), Below.refl _ _⟩

/-- The call through the interface, as a law for the walk. -/
theorem wpList_inv {ops : Array Oper} {rest : List Oper} {o : Oper} {a : Act} {w : World} {Q : Exit → Act → World → Prop} (hgd : o.guard = none) (x : Operand) (m : String)
    (ho : o.op = .call { callee := .invoke x m, args := #[], argTypes := #[] }) (v r : Value) (hx : a.eval x = v) {R : World → Prop}
    (hi : ∃ F args, (invoke (.fn (.method m) #[]) #[v]).run Try.prog w = .ok (.enter F args) w ∧ Calls Try.prog F args w fun e w' => e = .returned r ∧ R w')
    (hK : ∀ w', R w' → wpList Try.prog ops Q rest (a.put o.dst r) w') : wpList Try.prog ops Q (o :: rest) a w := by
  obtain ⟨F, args, h1, h2⟩ := hi
  refine wpList_plain hgd fun K hK' => ?_
  unfold Oper.wp execOp
  simp only [ho, resolve, Sem.run_bind, Sem.run_pure, Result.andThen_ok, List.map_toArray, List.map_nil, hx]
  have e0 : (#[v] ++ #[] : Array Value) = #[v] := by simp
  rw [e0, h1, Oper.upon_enter]
  refine h2.mono ?_
  rintro e w' ⟨rfl, hR⟩
  exact hK' _ _ (hK w' hR)

/-- NewIter[int] of a slice that cloneInts made. -/
theorem newIter (a : Option Addr) (n c B : Nat) (f : Nat → Int) (w : World) (hn : n ≤ 1048576) (h : SRow w B a n c f) :
    Calls Try.prog 15 #[.slice a n c] w fun e w' => ∃ v, e = .returned v ∧ IterIs w' w.heap.size v n 0 f ∧ Below w.heap.size w w' := by
  by_cases h0 : n = 0
  · subst h0
    go_enter Try.func15, Try.ntmps15
    go_wp2
    go_ret
    exact ⟨_, rfl, Or.inl ⟨rfl, rfl, rfl⟩, Below.refl _ _⟩
  · rcases h with h | ⟨g, _, rfl, rfl, hg⟩
    · omega
    have c0 := hg.cell (i := 0) (by omega)
    have hlt := hg.lt
    by_cases h1 : c = 1
    · subst h1
      go_enter Try.func15, Try.ntmps15
      go_wp2
      go_ret
      refine ⟨_, rfl, Or.inr (Or.inl ⟨rfl, by omega, rfl, ?_⟩), (Below.refl _ _).alloc (Nat.le_refl _) _⟩
      refine World.rowIs_alloc w #[_, _] 45 _ (fun i hi => ?_)
      match i, hi with
      | 0, _ => rfl
      | 1, _ => rfl
    · have e0 : ((c : Int) == 0) = false := by simp; omega
      have e1 : ((c : Int) == 1) = false := by simp; omega
      go_enter Try.func15, Try.ntmps15
      go_wp2
      go_ret
      refine ⟨_, rfl, Or.inr (Or.inr ⟨rfl, Nat.zero_le _, some ⟨g, 0, none⟩, World.rowIs_alloc w #[_] 48 _ (fun i hi => ?_), fun _ => ⟨g, rfl, by omega, hg.alloc _⟩⟩), (Below.refl _ _).alloc (Nat.le_refl _) _⟩
      match i, hi with
      | 0, _ => rfl
end Go.Proofs.Ytgfahahiekfjgaa
