/- Contracts of the other constructors of this seat and of the length of a slice iterator. Conditions: as stated. -/
import Derived.Test.YtgfahahiekfjgaaSmall
set_option linter.unusedVariables false
namespace Go.Proofs.Ytgfahahiekfjgaa
open Go.RowKit

theorem SRow.cap {w : World} {B : Nat} {a : Option Addr} {n c : Nat} {f : Nat → Int} (h : SRow w B a n c f) : c = n := by
  rcases h with ⟨_, rfl, rfl⟩ | ⟨g, _, _, rfl, _⟩ <;> rfl
theorem newSlice (a : Option Addr) (n B : Nat) (f : Nat → Int) (w : World) (h : SRow w B a n n f) :
    Calls Try.prog 19 #[.slice a n n] w fun e w' => e = .returned (.pointer (some ⟨w.heap.size, 0, none⟩)) ∧ SliceSt w' w.heap.size n 0 f ∧ Below w.heap.size w w' := by
  go_enter Try.func19, Try.ntmps19
  go_wp2
  go_ret
  refine ⟨rfl, ⟨Nat.zero_le _, a, World.rowIs_alloc w #[_] 48 _ (fun i hi => ?_), fun hk => ?_⟩, (Below.refl _ _).alloc (Nat.le_refl _) _⟩
  · match i, hi with
    | 0, _ => rfl
  · rcases h with ⟨_, h0, _⟩ | ⟨g, _, rfl, _, hg⟩
    · omega
    · exact ⟨g, rfl, by have := hg.lt; omega, hg.alloc _⟩
theorem sliceLen (b n k : Nat) (f : Nat → Int) (L : Int) (w : World) (h : SliceSt w b n k f) (hL : L = (n : Int) - k) :
    Calls Try.prog 22 #[.pointer (some ⟨b, 0, none⟩)] w fun e w' => e = .returned (.int .i64 L) ∧ w = w' := by
  obtain ⟨hk, a, hr, _⟩ := h
  have c0 := hr.cell (i := 0) (by omega)
  have e : L = ((n - k : Nat) : Int) := by omega
  rw [e]
  clear e hL hr
  go_enter Try.func22, Try.ntmps22
  go_wp2
  go_ret
  exact ⟨rfl, rfl⟩
theorem emptyNext (w : World) : Calls Try.prog 16 #[] w fun e w' => e = .returned (.tuple #[.nilIface, .bool false]) ∧ Below w.heap.size w w' := by
  go_enter Try.func16, Try.ntmps16
  go_wp2
  go_ret2
  exact ⟨rfl, (Below.refl _ _).alloc (Nat.le_refl _) _⟩
theorem newUnitInt (x : Int) (w : World) : Calls Try.prog 10 #[.int .i64 x] w fun e w' => e = .returned (.pointer (some ⟨w.heap.size, 0, none⟩)) ∧ UnitSt w' w.heap.size (.iface 3 (.int .i64 x)) false ∧ Below w.heap.size w w' := by
  go_enter Try.func10, Try.ntmps10
  go_wp2
  go_ret
  refine ⟨rfl, World.rowIs_alloc w #[_, _] 45 _ (fun i hi => ?_), (Below.refl _ _).alloc (Nat.le_refl _) _⟩
  match i, hi with
  | 0, _ => rfl
  | 1, _ => rfl
theorem newUnitString (s : ByteArray) (w : World) : Calls Try.prog 24 #[.string s] w fun e w' => e = .returned (.pointer (some ⟨w.heap.size, 0, none⟩)) ∧ UnitSt w' w.heap.size (.iface 9 (.string s)) false ∧ Below w.heap.size w w' := by
  go_enter Try.func24, Try.ntmps24
  go_wp2
  go_ret
  refine ⟨rfl, World.rowIs_alloc w #[_, _] 45 _ (fun i hi => ?_), (Below.refl _ _).alloc (Nat.le_refl _) _⟩
  match i, hi with
  | 0, _ => rfl
  | 1, _ => rfl
theorem newIterString (g : Nat) (s : ByteArray) (w : World) (h : w.cell? ⟨g, 0, none⟩ = some (.string s)) : Calls Try.prog 25 #[.slice (some ⟨g, 0, none⟩) 1 1] w fun e w' => e = .returned (.iface 22 (.pointer (some ⟨w.heap.size, 0, none⟩))) ∧ UnitSt w' w.heap.size (.iface 9 (.string s)) false ∧ Below w.heap.size w w' := by
  go_enter Try.func25, Try.ntmps25
  go_wp2
  go_ret
  refine ⟨rfl, World.rowIs_alloc w #[_, _] 45 _ (fun i hi => ?_), (Below.refl _ _).alloc (Nat.le_refl _) _⟩
  match i, hi with
  | 0, _ => rfl
  | 1, _ => rfl
theorem IterIs.far {w w' : World} {b b' n k : Nat} {v : Value} {f : Nat → Int} (h : IterIs w b v n k f) (hg : w.grownBy w' (some b')) (hne : b ≠ b') (hrow : ∀ g, w.rowIs g 3 n (fun i => .int .i64 (f i)) → g ≠ b') : IterIs w' b v n k f := by
  rcases h with h | ⟨h1, h2, h3, h4⟩ | ⟨h1, h2, a, h3, h4⟩
  · exact Or.inl h
  · exact Or.inr (Or.inl ⟨h1, h2, h3, World.rowIs.of_block h4 (hg.block b h4.lt (fun e => hne (by injection e)))⟩)
  · refine Or.inr (Or.inr ⟨h1, h2, a, h3.of_block (hg.block b h3.lt (fun e => hne (by injection e))), fun hk => ?_⟩)
    obtain ⟨g, e, hgb, hr⟩ := h4 hk
    exact ⟨g, e, hgb, hr.of_block (hg.block g hr.lt (fun e => hrow g hr (by injection e)))⟩
theorem IterIs.below {w w' : World} {b n k : Nat} {v : Value} {f : Nat → Int} (h : IterIs w b v n k f) (hb : Below w.heap.size w w') : IterIs w' b v n k f := by
  rcases h with h | ⟨h1, h2, h3, h4⟩ | ⟨h1, h2, a, h3, h4⟩
  · exact Or.inl h
  · exact Or.inr (Or.inl ⟨h1, h2, h3, World.rowIs.of_block h4 (hb.block b h4.lt)⟩)
  · refine Or.inr (Or.inr ⟨h1, h2, a, h3.of_block (hb.block b h3.lt), fun hk => ?_⟩)
    obtain ⟨g, e, hgb, hr⟩ := h4 hk
    exact ⟨g, e, hgb, hr.of_block (hb.block g hr.lt)⟩
theorem rowIs_ne {w : World} {b b' t t' n n' : Nat} {f f' : Nat → Value} (h : w.rowIs b t n f) (h' : w.rowIs b' t' n' f') (ht : t ≠ t') : b ≠ b' := by
  rintro rfl
  obtain ⟨c, hb, _⟩ := h
  obtain ⟨c', hb', _⟩ := h'
  rw [hb] at hb'
  injection hb' with hb'
  injection hb' with _ e
  exact ht e
theorem IterIs.ne {w : World} {b n k m g : Nat} {v : Value} {f : Nat → Int} {F : Nat → Value} (h : IterIs w b v n k f) (hn : 0 < n) (hg : w.rowIs g 3 m F) : g ≠ b := by
  rcases h with ⟨h, _⟩ | ⟨_, _, _, h4⟩ | ⟨_, _, a, h3, _⟩
  · omega
  · exact rowIs_ne hg h4 (by decide)
  · exact rowIs_ne hg h3 (by decide)
end Go.Proofs.Ytgfahahiekfjgaa
