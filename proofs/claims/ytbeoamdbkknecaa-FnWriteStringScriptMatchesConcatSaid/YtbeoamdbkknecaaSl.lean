/- What the laws over byte slices need of the limited writer. -/
import Derived.Test.YtbeoamdbkknecaaM5
set_option linter.unusedVariables false
namespace Go.Proofs.Ytbeoamdbkknecaa
open Go.RowKit

theorem BRow.src {w : World} {B n : Nat} {a : Option Addr} {f : Nat → Int} (h : BRow w B a n f) : n = 0 ∨ ∃ ad, a = some ad ∧ ∀ j, j < n → w.cell? (ad.add j) = some (.int .u8 (f j)) := by
  rcases h with h | ⟨g, _, e, hr⟩
  · exact Or.inl h
  · exact Or.inr ⟨_, e, fun j hj => by rw [Go.WideShapes.add_plain, Nat.zero_add]; exact hr.cell hj⟩
theorem BRow.lt {w : World} {B n k : Nat} {a : Option Addr} {f : Nat → Int} (h : BRow w B a n f) (hn : 0 < n) (e : a = some ⟨k, 0, none⟩) : k < w.heap.size := by
  rcases h with h | ⟨g, _, e', hr⟩
  · omega
  · rw [e] at e'; injection e' with e'; injection e' with e'; rw [e']; exact hr.lt
/-- A row that lay there ahead of the writer stays. -/
theorem BRow.kept {w0 w w' : World} {B n b g : Nat} {a : Option Addr} {f : Nat → Int} (h : BRow w B a n f) (h0 : BRow w0 B a n f) (hO : Only b g w w') (hb : w0.heap.size ≤ b) (hg : w0.heap.size ≤ g) : BRow w' B a n f := by
  rcases Nat.eq_zero_or_pos n with hn | hn
  · exact Or.inl hn
  · exact h.only hO (fun k e => by have := h0.lt hn e; omega)
theorem Qt.drewN {w w' : World} (h : Qt w w') (n : Nat) : Qt w (w'.drewN n) := by
  obtain ⟨q, rfl⟩ := h; exact ⟨q + n, by rw [World.drewN_drewN]⟩
theorem Qt.refl (w : World) : Qt w w := ⟨0, rfl⟩
theorem Qt.trans {a b c : World} (h : Qt a b) (k : Qt b c) : Qt a c := by
  obtain ⟨q, rfl⟩ := h; obtain ⟨r, rfl⟩ := k; exact ⟨q + r, by rw [World.drewN_drewN]⟩
end Go.Proofs.Ytbeoamdbkknecaa
