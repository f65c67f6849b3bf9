/- Contracts of the guards zzBytes, of the converters and of the constructors of this seat. Conditions: as stated. -/
import Derived.Test.YtgfahahiekfjgaaIter
set_option linter.unusedVariables false
namespace Go.Proofs.Ytgfahahiekfjgaa
open Go.RowKit

theorem asInt (x : Int) (w : World) : Calls Try.prog 12 #[.iface 3 (.int .i64 x)] w fun e w' => e = .returned (.tuple #[.int .i64 x, .bool true]) ∧ w = w' := by
  go_enter Try.func12, Try.ntmps12
  go_wp2
  go_ret2
  exact ⟨rfl, rfl⟩
theorem asStr (x : ByteArray) (w : World) : Calls Try.prog 26 #[.iface 9 (.string x)] w fun e w' => e = .returned (.tuple #[.string x, .bool true]) ∧ w = w' := by
  go_enter Try.func26, Try.ntmps26
  go_wp2
  go_ret2
  exact ⟨rfl, rfl⟩
theorem zzb17 (a : Option Addr) (n c : Nat) (x : Int) (w : World) (h : n ≤ 1048576) : Calls Try.prog 17 #[.slice a n c, .int .i64 x] w fun e w' => e = .returned (.bool true) ∧ w = w' := by
  go_enter Try.func17, Try.ntmps17
  go_wp2
  go_ret
  exact ⟨rfl, rfl⟩
theorem zzb13 (a : Option Addr) (n c : Nat) (x : Int) (w : World) (h : n ≤ 1048576) : Calls Try.prog 13 #[.slice a n c, .int .i64 x] w fun e w' => e = .returned (.bool true) ∧ w = w' := by
  go_enter Try.func13, Try.ntmps13
  go_wp2
  go_ret
  exact ⟨rfl, rfl⟩
theorem zzb18 (a : Option Addr) (n c : Nat) (x : Int) (w : World) (h : n ≤ 1048576) : Calls Try.prog 18 #[.slice a n c, .int .i64 x] w fun e w' => e = .returned (.bool true) ∧ w = w' := by
  go_enter Try.func18, Try.ntmps18
  go_wp2
  go_ret
  exact ⟨rfl, rfl⟩
theorem zzb21 (a : Option Addr) (n c : Nat) (x : Int) (w : World) (h : n ≤ 1048576) : Calls Try.prog 21 #[.slice a n c, .int .i64 x] w fun e w' => e = .returned (.bool true) ∧ w = w' := by
  go_enter Try.func21, Try.ntmps21
  go_wp2
  go_ret
  exact ⟨rfl, rfl⟩
theorem zzb27 (a : Option Addr) (n c : Nat) (w : World) (h : n ≤ 1048576) : Calls Try.prog 27 #[.slice a n c] w fun e w' => e = .returned (.bool true) ∧ w = w' := by
  go_enter Try.func27, Try.ntmps27
  go_wp2
  go_ret
  exact ⟨rfl, rfl⟩
theorem zzb23 (s : ByteArray) (x : Int) (w : World) (h : s.size ≤ 1048576) : Calls Try.prog 23 #[.string s, .int .i64 x] w fun e w' => e = .returned (.bool true) ∧ w = w' := by
  go_enter Try.func23, Try.ntmps23
  go_wp2
  go_ret
  exact ⟨rfl, rfl⟩

/-- What a row of the call's own reads at k. -/
theorem SRow.at_ {w : World} {B : Nat} {a : Option Addr} {n c k : Nat} {f : Nat → Int} (h : SRow w B a n c f) (hk : k < n) :
    ∃ g, B ≤ g ∧ a = some ⟨g, 0, none⟩ ∧ c = n ∧ w.cell? ⟨g, k, none⟩ = some (.int .i64 (f k)) := by
  rcases h with h | ⟨g, h1, h2, h3, hr⟩
  · omega
  · exact ⟨g, h1, h2, h3, hr.cell hk⟩
theorem SRow.cell {w : World} {B g : Nat} {n c k : Nat} {f : Nat → Int} (h : SRow w B (some ⟨g, 0, none⟩) n c f) (hk : k < n) : w.cell? ⟨g, k, none⟩ = some (.int .i64 (f k)) := by
  obtain ⟨g', _, e, _, hc⟩ := h.at_ hk
  injection e with e
  injection e with e
  rw [e]; exact hc
theorem SRow.lt {w : World} {B : Nat} {a : Option Addr} {n c : Nat} {f : Nat → Int} (h : SRow w B a n c f) {g : Nat} (e : a = some ⟨g, 0, none⟩) : g < w.heap.size := by
  rcases h with ⟨h, _⟩ | ⟨g', h1, h2, h3, hr⟩
  · rw [h] at e; cases e
  · rw [h2] at e; injection e with e; injection e with e; subst e; exact hr.lt
theorem below_grown {B b : Nat} {a w w' : World} (h : Below B a w) (hg : w.grownBy w' (some b)) (hB : B ≤ w.heap.size) (hb : B ≤ b) : Below B a w' :=
  h.grown hg hB (fun k e => by injection e with e; omega)
end Go.Proofs.Ytgfahahiekfjgaa
