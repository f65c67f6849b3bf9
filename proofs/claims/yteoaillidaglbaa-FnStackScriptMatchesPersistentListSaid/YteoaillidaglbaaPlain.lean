/- The plain side of the stack: chains through a list of pairs (value, next), what a push does to the list, and that chains below the limit stay. No program here. -/
import Derived.Below
set_option linter.unusedVariables false
namespace Go.Proofs.Yteoaillidaglbaa

/-- From index i the values xs are read, following the second components downwards. -/
inductive Chain (ds : List (Int × Int)) : Int → List Int → Prop
  | nil (i : Int) (h : i < 0) : Chain ds i []
  | cons (i : Nat) (x nx : Int) (xs : List Int) (h : ds[i]? = some (x, nx)) (hn : nx < i) (t : Chain ds nx xs) : Chain ds i (x :: xs)

theorem Chain.congr {ds ds' : List (Int × Int)} {i : Int} {xs : List Int} (h : Chain ds i xs) : (∀ k : Nat, (k : Int) ≤ i → ds'[k]? = ds[k]?) → Chain ds' i xs := by
  induction h with
  | nil i hi => exact fun _ => .nil i hi
  | cons i x nx xs hx hn t ih => exact fun hk => .cons i x nx xs ((hk i (Int.le_refl _)).trans hx) hn (ih fun k hk' => hk k (by omega))

theorem Chain.len {ds : List (Int × Int)} {i : Int} {xs : List Int} (h : Chain ds i xs) : (xs.length : Int) ≤ i + 1 ∨ xs = [] := by
  induction h with
  | nil i hi => exact Or.inr rfl
  | cons i x nx xs hx hn t ih =>
    left
    rw [List.length_cons]
    rcases ih with ih | rfl
    · omega
    · simp only [List.length_nil]; omega

theorem Chain.neg {ds : List (Int × Int)} {i : Int} {xs : List Int} (h : Chain ds i xs) : i < 0 ↔ xs = [] := by
  cases h with
  | nil _ hi => simp [hi]
  | cons i x nx xs hx hn t => simp

theorem Chain.pop {ds : List (Int × Int)} {i : Int} {xs : List Int} (h : Chain ds i xs) (hi : 0 ≤ i) : ∃ x nx t, xs = x :: t ∧ ds[i.toNat]? = some (x, nx) ∧ nx < i ∧ Chain ds nx t := by
  cases h with
  | nil _ h => omega
  | cons i x nx xs hx hn t => exact ⟨x, nx, xs, rfl, by simpa using hx, hn, t⟩

/-- The stack's own invariant. -/
structure Inv (ds : List (Int × Int)) (idx lim : Int) : Prop where
  i0 : -1 ≤ idx
  i1 : idx < ds.length
  l0 : -1 ≤ lim
  l1 : lim < ds.length
  nx : ∀ (k : Nat) (p : Int × Int), ds[k]? = some p → -1 ≤ p.2 ∧ p.2 < k

def ix (idx lim : Int) : Nat := (max idx lim + 1).toNat
def pushDs (ds : List (Int × Int)) (idx lim x : Int) : List (Int × Int) := if ix idx lim < ds.length then ds.set (ix idx lim) (x, idx) else ds ++ [(x, idx)]

theorem ix_int {ds : List (Int × Int)} {idx lim : Int} (h : Inv ds idx lim) : ((ix idx lim : Nat) : Int) = max idx lim + 1 := by
  have := h.i0; unfold ix; omega
theorem ix_le {ds : List (Int × Int)} {idx lim : Int} (h : Inv ds idx lim) : ix idx lim ≤ ds.length := by
  have := h.i1; have := h.l1; unfold ix; omega
theorem pushDs_len {ds : List (Int × Int)} {idx lim : Int} (x : Int) (h : Inv ds idx lim) : ds.length ≤ (pushDs ds idx lim x).length ∧ (pushDs ds idx lim x).length ≤ ds.length + 1 ∧ ix idx lim < (pushDs ds idx lim x).length := by
  have := ix_le h
  unfold pushDs
  by_cases e : ix idx lim < ds.length
  · rw [if_pos e, List.length_set]; omega
  · rw [if_neg e, List.length_append, List.length_cons, List.length_nil]; omega
theorem pushDs_old {ds : List (Int × Int)} {idx lim : Int} (x : Int) (h : Inv ds idx lim) (k : Nat) (hk : (k : Int) ≤ max idx lim) : (pushDs ds idx lim x)[k]? = ds[k]? := by
  have h1 := ix_int h
  have h2 := h.i1
  have h3 := h.l1
  unfold pushDs
  by_cases e : ix idx lim < ds.length
  · rw [if_pos e, List.getElem?_set_ne (by omega)]
  · rw [if_neg e, List.getElem?_append_left (by omega)]
theorem pushDs_new {ds : List (Int × Int)} {idx lim : Int} (x : Int) (h : Inv ds idx lim) : (pushDs ds idx lim x)[ix idx lim]? = some (x, idx) := by
  have h1 := ix_le h
  unfold pushDs
  by_cases e : ix idx lim < ds.length
  · rw [if_pos e, List.getElem?_set_self e]
  · have e2 : ix idx lim = ds.length := by omega
    rw [if_neg e, e2]; simp

theorem Inv.push {ds : List (Int × Int)} {idx lim : Int} (x : Int) (h : Inv ds idx lim) : Inv (pushDs ds idx lim x) (max idx lim + 1) lim := by
  have h1 := ix_int h
  obtain ⟨h2, _, h3⟩ := pushDs_len x h
  refine ⟨by have := h.i0; omega, by omega, h.l0, by have := h.l1; omega, fun k p hp => ?_⟩
  by_cases e : k = ix idx lim
  · subst e
    rw [pushDs_new x h] at hp
    injection hp with hp
    subst hp
    have := h.i0
    exact ⟨this, by simp only; omega⟩
  · have hk : (pushDs ds idx lim x)[k]? = ds[k]? ∨ ds.length ≤ k := by
      by_cases e2 : k < ds.length
      · left
        unfold pushDs
        by_cases e3 : ix idx lim < ds.length
        · rw [if_pos e3, List.getElem?_set_ne (fun h => e h.symm)]
        · rw [if_neg e3, List.getElem?_append_left e2]
      · right; omega
    rcases hk with hk | hk
    · exact h.nx k p (hk ▸ hp)
    · exfalso
      have hlt : k < (pushDs ds idx lim x).length := by
        obtain ⟨hlt, _⟩ := List.getElem?_eq_some_iff.1 hp
        exact hlt
      unfold pushDs at hlt
      have := ix_le h
      by_cases e3 : ix idx lim < ds.length
      · rw [if_pos e3, List.length_set] at hlt; omega
      · rw [if_neg e3, List.length_append, List.length_cons, List.length_nil] at hlt; omega

theorem Chain.far {ds : List (Int × Int)} {idx lim i x : Int} {xs : List Int} (h : Chain ds i xs) (hv : Inv ds idx lim) (hi : i ≤ max idx lim) : Chain (pushDs ds idx lim x) i xs :=
  h.congr fun k hk => pushDs_old x hv k (by omega)
theorem Chain.push {ds : List (Int × Int)} {idx lim : Int} {xs : List Int} (x : Int) (h : Chain ds idx xs) (hv : Inv ds idx lim) : Chain (pushDs ds idx lim x) (max idx lim + 1) (x :: xs) := by
  rw [← ix_int hv]
  exact .cons _ x idx xs (pushDs_new x hv) (by have := ix_int hv; omega) (h.far hv (by omega))

theorem Inv.pop {ds : List (Int × Int)} {idx lim x nx : Int} (h : Inv ds idx lim) (hi : 0 ≤ idx) (hp : ds[idx.toNat]? = some (x, nx)) : Inv ds nx lim := by
  have h1 := h.nx _ _ hp
  have h2 := h.i1
  exact ⟨h1.1, by have := h1.2; simp only at this; omega, h.l0, h.l1, h.nx⟩
theorem Inv.save {ds : List (Int × Int)} {idx lim : Int} (h : Inv ds idx lim) : Inv ds idx (max lim idx) := by
  have := h.i0; have := h.i1; have := h.l0; have := h.l1
  exact ⟨h.i0, h.i1, by omega, by omega, h.nx⟩
theorem Inv.empty : Inv [] (-1) (-1) := ⟨by omega, by simp, by omega, by simp, fun k p h => by simp at h⟩
/-- What save remembered fits whatever the list has become. -/
theorem Inv.restore {ds ds' : List (Int × Int)} {idx lim i l : Int} (h : Inv ds idx lim) (h' : Inv ds' i l) (hl : ds'.length ≤ ds.length) : Inv ds i l :=
  ⟨h'.i0, by have := h'.i1; omega, h'.l0, by have := h'.l1; omega, h.nx⟩
end Go.Proofs.Yteoaillidaglbaa
