/- A slice of strings as the frame hands it, as the walks want it. -/
import Derived.Test.YtboekgedfhdaaaaDoorRL
set_option linter.unusedVariables false
namespace Go.Proofs.YtboekgedfhdaaaaDoor
open Go.Shelf Go.RowKit


/-- A slice of strings that came in. -/
def IsStrs (w : World) (a : Option Addr) (len cap : Nat) (zs : List ByteArray) : Prop :=
  (a = none ∧ len = 0 ∧ cap = 0 ∧ zs = []) ∨
  ∃ x, a = some x ∧ len ≤ cap ∧ cap ≤ maxLen ∧ zs.length = cap ∧ (∀ i, i < zs.length → w.cell? (x.add i) = some (.string (zs.getD i ByteArray.empty))) ∧ ∀ s ∈ zs, s.size ≤ maxLen
def atZ (zs : List ByteArray) (i : Nat) : ByteArray := zs.getD i ByteArray.empty
theorem IsStrs.strIn {w : World} {a : Option Addr} {len cap : Nat} {zs : List ByteArray} (h : IsStrs w a len cap zs) : StrIn w a len cap (atZ zs) := by
  rcases h with ⟨rfl, rfl, rfl, _⟩ | ⟨x, rfl, h1, _, h3, h4, _⟩
  · exact Or.inl ⟨rfl, rfl, rfl⟩
  · exact Or.inr ⟨x, rfl, fun i hi => h4 i (by omega)⟩
theorem IsStrs.szOk {w : World} {a : Option Addr} {len cap : Nat} {zs : List ByteArray} (h : IsStrs w a len cap zs) : SzOk (atZ zs) len := by
  rcases h with ⟨rfl, rfl, rfl, _⟩ | ⟨x, rfl, h1, _, h3, _, h5⟩
  · intro i hi; omega
  · intro i hi
    have := h5 (zs.getD i ByteArray.empty) (by have hl : i < zs.length := by omega
                                               have e : zs.getD i ByteArray.empty = zs[i] := by simp [List.getD, hl]
                                               rw [e]; exact List.getElem_mem _)
    unfold maxLen at this
    exact this
theorem IsStrs.len {w : World} {a : Option Addr} {len cap : Nat} {zs : List ByteArray} (h : IsStrs w a len cap zs) : len ≤ 9223372036854775807 := by
  rcases h with ⟨rfl, rfl, rfl, _⟩ | ⟨x, rfl, h1, h2, _⟩
  · omega
  · unfold maxLen at h2; omega
end Go.Proofs.YtboekgedfhdaaaaDoor
