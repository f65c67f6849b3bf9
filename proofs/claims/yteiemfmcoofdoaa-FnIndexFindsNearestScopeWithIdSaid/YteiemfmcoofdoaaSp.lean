/- scopeStack.push on a stack of the call's own that is never restored: the scope is appended. Conditions: at most 4096 scopes. -/
import Derived.Test.YteiemfmcoofdoaaSc
import Derived.WalkLawsBesides
import Derived.RegionTactic
import Derived.Deep.RegionLaw
import Derived.Deep.AppendLies
import Derived.Deep.QuietTactic
import Derived.BigQuiet
set_option linter.unusedVariables false
namespace Go.Proofs.Yteiemfmcoofdoaa
open Go.RowKit

theorem Try.infoB6 : (Try.prog.info? 66).map (fun i => (i.zero, i.size, i.bytes)) = some (some (.agg #[.int .i64 0, .int .i64 0, .int .i64 0, .int .i64 0, .int .i64 0, .int .i64 0]), 6, 48) := by kernel_rfl
theorem info_parts {P : Program} {t : TypeId} {z : Value} {a b : Nat} (h : (P.info? t).map (fun i => (i.zero, i.size, i.bytes)) = some (some z, a, b)) :
    ∃ i, P.info? t = some i ∧ i.zero = some z ∧ i.size = a ∧ i.bytes = b := by
  cases e : P.info? t with
  | none => rw [e] at h; cases h
  | some i => rw [e] at h; simp at h; exact ⟨i, rfl, h.1, h.2.1, h.2.2⟩

/-- One scope's cells, with the link behind them. -/
def six (x y : Int) (n : Nat) : List Value := [.int .i64 x, .int .i64 y, .int .i64 0, .int .i64 0, .int .i64 ((n : Int) - 1), .int .i64 ((n : Int) - 1)]
def cells6 (f g : Nat → Int) : Nat → List Value
  | 0 => []
  | k + 1 => cells6 f g k ++ six (f k) (g k) k
theorem cells6_len (f g : Nat → Int) : ∀ n, (cells6 f g n).length = n * 6
  | 0 => rfl
  | n + 1 => by simp only [cells6, List.length_append, cells6_len f g n, six, List.length_cons, List.length_nil]; omega
theorem cells6_at (f g : Nat → Int) : ∀ (n j t : Nat), j < n → t < 6 → (cells6 f g n)[j * 6 + t]? = (six (f j) (g j) j)[t]?
  | n + 1, j, t, hj, ht => by
    have hl := cells6_len f g n
    by_cases e : j = n
    · subst e
      simp only [cells6]
      rw [List.getElem?_append_right (by omega), hl, Nat.add_sub_cancel_left]
    · simp only [cells6]
      rw [List.getElem?_append_left (by omega)]
      exact cells6_at f g n j t (by omega) ht

/-- A stack of scopes at block b, n of them, its row from block B on; v: the slice in its first field. -/
def Scp (w : World) (B b : Nat) (f g : Nat → Int) (n : Nat) (v : Value) : Prop :=
  w.heap[b]? = some (.cells #[v, .int .i64 ((n : Int) - 1), .int .i64 (-1)] 50 (0, 0)) ∧ w.ownsRow B 66 6 v n (cells6 f g n)
/-- The same, the index already raised. -/
def ScpUp (w : World) (B b : Nat) (f g : Nat → Int) (n : Nat) (v : Value) : Prop :=
  w.heap[b]? = some (.cells #[v, .int .i64 n, .int .i64 (-1)] 50 (0, 0)) ∧ w.ownsRow B 66 6 v n (cells6 f g n)
/-- Below B, block b aside, w' is as w was. -/
structure But (b B : Nat) (w w' : World) : Prop where
  os : w'.os = w.os
  tape : w'.tape = w.tape
  output : w'.output = w.output
  size : w.heap.size ≤ w'.heap.size
  block : ∀ k, k < B → k ≠ b → w'.heap[k]? = w.heap[k]?
theorem But.refl (b B : Nat) (w : World) : But b B w w := ⟨rfl, rfl, rfl, Nat.le_refl _, fun _ _ _ => rfl⟩
theorem But.trans {b B : Nat} {w w1 w2 : World} (h : But b B w w1) (k : But b B w1 w2) : But b B w w2 :=
  ⟨k.os.trans h.os, k.tape.trans h.tape, k.output.trans h.output, Nat.le_trans h.size k.size, fun i hi hb => (k.block i hi hb).trans (h.block i hi hb)⟩
theorem But.set {b B : Nat} {w w1 : World} (h : But b B w w1) (j : Nat) (u : Value) : But b B w (w1.setCell ⟨b, j, none⟩ u) :=
  ⟨h.os, h.tape, h.output, by simpa [World.setCell] using h.size, fun k hk hb => (Below.heap_setCell w1 _ u k hb).trans (h.block k hk hb)⟩
theorem But.alloc {b B : Nat} {w w1 : World} (h : But b B w w1) (hB : B ≤ w1.heap.size) (o : Obj) : But b B w (w1.alloc o) :=
  ⟨h.os, h.tape, h.output, Nat.le_trans h.size (by simp), fun k hk hb => (Below.heap_alloc w1 o k (by omega)).trans (h.block k hk hb)⟩
theorem But.drew {b B : Nat} {w w1 : World} (h : But b B w w1) : But b B w w1.drew := ⟨h.os, h.tape, h.output, h.size, h.block⟩
theorem But.drewN {b B : Nat} {w w1 : World} (h : But b B w w1) (n : Nat) : But b B w (w1.drewN n) := ⟨h.os, h.tape, h.output, h.size, h.block⟩
theorem But.below {b B : Nat} {w w1 : World} (h : But b B w w1) (hb : b < B) : Below b w w1 := ⟨h.os, h.tape, h.output, h.size, fun k hk => h.block k (by omega) (by omega)⟩

section
variable {w w' : World} {B b : Nat} {f g : Nat → Int} {n : Nat} {v : Value}
theorem own_setCell {e : TypeId} {size n : Nat} {xs : List Value} (h : w.ownsRow B e size v n xs) {p : Addr} (hp : v.ownBlock ≠ some p.block) (u : Value) : (w.setCell p u).ownsRow B e size v n xs := by
  refine ⟨h.1, ?_⟩
  rcases h.2 with h2 | ⟨g, cap, cur, hv, hg, hh, r⟩
  · exact Or.inl h2
  · refine Or.inr ⟨g, cap, cur, hv, hg, ?_, r⟩
    rw [Below.heap_setCell _ _ _ _ (fun e => hp (by rw [hv, ← e]; rfl))]
    exact hh
theorem lt_of_heap {b : Nat} {o : Obj} (h : w.heap[b]? = some o) : b < w.heap.size := by
  rcases Nat.lt_or_ge b w.heap.size with h' | h'
  · exact h'
  · simp [Array.getElem?_eq_none h'] at h
theorem Scp.ne (h : Scp w B b f g n v) (hb : b < B) : v.ownBlock ≠ some b := fun e => by have := (h.2.lt b e).1; omega
theorem ScpUp.ne (h : ScpUp w B b f g n v) (hb : b < B) : v.ownBlock ≠ some b := fun e => by have := (h.2.lt b e).1; omega
theorem Scp.c0 (h : Scp w B b f g n v) : w.cell? ⟨b, 0, none⟩ = some v := by rw [cell_of_row _ _ _ _ _ _ h.1]; rfl
theorem Scp.c1 (h : Scp w B b f g n v) : w.cell? ⟨b, 1, none⟩ = some (.int .i64 ((n : Int) - 1)) := by rw [cell_of_row _ _ _ _ _ _ h.1]; rfl
theorem Scp.c2 (h : Scp w B b f g n v) : w.cell? ⟨b, 2, none⟩ = some (.int .i64 (-1)) := by rw [cell_of_row _ _ _ _ _ _ h.1]; rfl
theorem Scp.fz (h : Scp w B b f g n v) (j : Nat) : w.frozen? ⟨b, j, none⟩ = false := frozen_of_row _ _ _ _ _ h.1
theorem ScpUp.c0 (h : ScpUp w B b f g n v) : w.cell? ⟨b, 0, none⟩ = some v := by rw [cell_of_row _ _ _ _ _ _ h.1]; rfl
theorem ScpUp.fz (h : ScpUp w B b f g n v) (j : Nat) : w.frozen? ⟨b, j, none⟩ = false := frozen_of_row _ _ _ _ _ h.1
theorem Scp.up (h : Scp w B b f g n v) (hb : b < B) : ScpUp (w.setCell ⟨b, 1, none⟩ (.int .i64 n)) B b f g n v :=
  ⟨by rw [heap_setCell_same _ _ _ _ _ _ h.1]; rfl, own_setCell h.2 (h.ne hb) _⟩
theorem Scp.alloc (h : Scp w B b f g n v) (o : Obj) : Scp (w.alloc o) B b f g n v := ⟨(Below.heap_alloc w o b (lt_of_heap h.1)).trans h.1, h.2.alloc o⟩
theorem ScpUp.alloc (h : ScpUp w B b f g n v) (o : Obj) : ScpUp (w.alloc o) B b f g n v := ⟨(Below.heap_alloc w o b (lt_of_heap h.1)).trans h.1, h.2.alloc o⟩
theorem Scp.slice (h : Scp w B b f g n v) : ∃ a cap, v = .slice a n cap := by
  rcases h.2.2 with ⟨hv, h0⟩ | ⟨g, cap, cur, hv, _⟩
  · exact ⟨none, 0, by rw [hv, h0]⟩
  · exact ⟨_, _, hv⟩
end

theorem cell_six_new (w : World) (x0 x1 x2 x3 x4 x5 : Value) (t : TypeId) : ∀ j u, [x0, x1, x2, x3, x4, x5][j]? = some u → (w.alloc (.cells #[x0, x1, x2, x3, x4, x5] t)).cell? ((⟨w.heap.size, 0, none⟩ : Addr).add j) = some u := by
  intro j u hj
  match j, hj with
  | 0, hj => simp at hj; subst hj; simp [Addr.add]
  | 1, hj => simp at hj; subst hj; simp [Addr.add]
  | 2, hj => simp at hj; subst hj; simp [Addr.add]
  | 3, hj => simp at hj; subst hj; simp [Addr.add]
  | 4, hj => simp at hj; subst hj; simp [Addr.add]
  | 5, hj => simp at hj; subst hj; simp [Addr.add]
  | (j + 6), hj => simp at hj

theorem push_fin {w W w1 : World} {B b n cap h cap1 : Nat} {f g : Nat → Int} {a : Option Addr} {o : Obj} (hb : b < B) (hS : ScpUp W B b f g n (.slice a n cap)) (hBW : B ≤ W.heap.size) (hO : But b B w W)
    (hown1 : w1.ownsRow B 66 6 (.slice (some ⟨h, 0, none⟩) (n + 1) cap1) (n + 1) (cells6 f g n ++ six (f n) (g n) n)) (HG : (W.alloc o).drew.grownBy w1 (Value.slice a n cap).ownBlock) :
    (∃ v', Scp (w1.setCell ⟨b, 0, none⟩ (.slice (some ⟨h, 0, none⟩) (n + 1) cap1)) B b f g (n + 1) v') ∧ But b B w (w1.setCell ⟨b, 0, none⟩ (.slice (some ⟨h, 0, none⟩) (n + 1) cap1)) := by
  have hb1 : w1.heap[b]? = some (.cells #[.slice a n cap, .int .i64 n, .int .i64 (-1)] 50 (0, 0)) :=
    (HG.block b (lt_of_heap (hS.alloc o).1) (fun e => hS.ne hb e.symm)).trans (hS.alloc o).1
  refine ⟨⟨.slice (some ⟨h, 0, none⟩) (n + 1) cap1, ?_, ?_⟩, ?_⟩
  · rw [heap_setCell_same _ _ _ _ _ _ hb1]
    have : (((n + 1 : Nat) : Int) - 1) = n := by omega
    rw [this]; rfl
  · have hne := (hown1.lt h rfl).1
    exact own_setCell hown1 (fun e => by have : h = b := by simpa [Value.ownBlock] using e
                                         omega) _
  · have h3 : But b B w w1 := by
      have hA := (hO.alloc hBW o).drew
      exact ⟨HG.os.trans hA.os, HG.tape.trans hA.tape, HG.output.trans hA.output, Nat.le_trans hA.size HG.size, fun k hk h1 => (HG.block k (by simp; omega) (fun e => by have := (hS.2.lt k e.symm).1; omega)).trans (hA.block k hk h1)⟩
    exact h3.set 0 _

set_option maxRecDepth 100000 in
theorem push_any (w : World) (B b : Nat) (f g : Nat → Int) (n : Nat) (a : Option Addr) (cap : Nat) (x y : Int) (hxy : f n = x ∧ g n = y) (h : Scp w B b f g n (.slice a n cap)) (hlen : n ≤ 4096) (hb : b < B) (hB : B ≤ w.heap.size) :
    Calls Try.prog 23 #[.pointer (some ⟨b, 0, none⟩), .agg #[.int .i64 x, .int .i64 y, .int .i64 0, .int .i64 0, .int .i64 ((n : Int) - 1)]] w fun e w' => e = .returned (.tuple #[]) ∧ (∃ v', Scp w' B b f g (n + 1) v') ∧ But b B w w' := by
  obtain ⟨i0, hi, hz0, hz1, hz2⟩ := info_parts Try.infoB6
  have HXY := Lib.hid hxy
  clear hxy
  have c0 := h.c0
  have c1 := h.c1
  have c2 := h.c2
  have f0 := h.fz 0
  have f1 := h.fz 1
  have hbl := lt_of_heap h.1
  go_enter Try.func23, Try.ntmps23
  have hmx : ¬ ((n : Int) - 1 < -1) := by omega
  go_wp2
  go_region
  go_wp2
  go_region
  go_wp2
  go_quiet (fail)
  go_wp2
  have hS : ScpUp ((((w.setCell ⟨b, 1, none⟩ (.int .i64 n)).alloc (.cells #[.int .i64 x, .int .i64 y, .int .i64 0, .int .i64 0, .int .i64 ((n : Int) - 1)] 61)).alloc (.cells #[.int .i64 x, .int .i64 y, .int .i64 0, .int .i64 0, .int .i64 ((n : Int) - 1), .int .i64 ((n : Int) - 1)] 66)).drew.drew.drewN nq) B b f g n (.slice a n cap) := ((h.up hb).alloc _).alloc _
  have hO : But b B w ((((w.setCell ⟨b, 1, none⟩ (.int .i64 n)).alloc (.cells #[.int .i64 x, .int .i64 y, .int .i64 0, .int .i64 0, .int .i64 ((n : Int) - 1)] 61)).alloc (.cells #[.int .i64 x, .int .i64 y, .int .i64 0, .int .i64 0, .int .i64 ((n : Int) - 1), .int .i64 ((n : Int) - 1)] 66)).drew.drew.drewN nq) := (((((But.refl b B w).set 1 _).alloc (by simp [World.setCell]; omega) _).alloc (by simp [World.setCell]; omega) _).drew.drew).drewN _
  have e0 : ((((w.setCell ⟨b, 1, none⟩ (.int .i64 n)).alloc (.cells #[.int .i64 x, .int .i64 y, .int .i64 0, .int .i64 0, .int .i64 ((n : Int) - 1)] 61)).alloc (.cells #[.int .i64 x, .int .i64 y, .int .i64 0, .int .i64 0, .int .i64 ((n : Int) - 1), .int .i64 ((n : Int) - 1)] 66)).drew.drew.drewN nq).cell? ⟨w.heap.size + 1, 0, none⟩ = some (.int .i64 x) := by simp [go_sem]
  have e1 : ((((w.setCell ⟨b, 1, none⟩ (.int .i64 n)).alloc (.cells #[.int .i64 x, .int .i64 y, .int .i64 0, .int .i64 0, .int .i64 ((n : Int) - 1)] 61)).alloc (.cells #[.int .i64 x, .int .i64 y, .int .i64 0, .int .i64 0, .int .i64 ((n : Int) - 1), .int .i64 ((n : Int) - 1)] 66)).drew.drew.drewN nq).cell? ⟨w.heap.size + 1, 1, none⟩ = some (.int .i64 y) := by simp [go_sem]
  have e2 : ((((w.setCell ⟨b, 1, none⟩ (.int .i64 n)).alloc (.cells #[.int .i64 x, .int .i64 y, .int .i64 0, .int .i64 0, .int .i64 ((n : Int) - 1)] 61)).alloc (.cells #[.int .i64 x, .int .i64 y, .int .i64 0, .int .i64 0, .int .i64 ((n : Int) - 1), .int .i64 ((n : Int) - 1)] 66)).drew.drew.drewN nq).cell? ⟨w.heap.size + 1, 2, none⟩ = some (.int .i64 0) := by simp [go_sem]
  have e3 : ((((w.setCell ⟨b, 1, none⟩ (.int .i64 n)).alloc (.cells #[.int .i64 x, .int .i64 y, .int .i64 0, .int .i64 0, .int .i64 ((n : Int) - 1)] 61)).alloc (.cells #[.int .i64 x, .int .i64 y, .int .i64 0, .int .i64 0, .int .i64 ((n : Int) - 1), .int .i64 ((n : Int) - 1)] 66)).drew.drew.drewN nq).cell? ⟨w.heap.size + 1, 3, none⟩ = some (.int .i64 0) := by simp [go_sem]
  have e4 : ((((w.setCell ⟨b, 1, none⟩ (.int .i64 n)).alloc (.cells #[.int .i64 x, .int .i64 y, .int .i64 0, .int .i64 0, .int .i64 ((n : Int) - 1)] 61)).alloc (.cells #[.int .i64 x, .int .i64 y, .int .i64 0, .int .i64 0, .int .i64 ((n : Int) - 1), .int .i64 ((n : Int) - 1)] 66)).drew.drew.drewN nq).cell? ⟨w.heap.size + 1, 4, none⟩ = some (.int .i64 ((n : Int) - 1)) := by simp [go_sem]
  have e5 : ((((w.setCell ⟨b, 1, none⟩ (.int .i64 n)).alloc (.cells #[.int .i64 x, .int .i64 y, .int .i64 0, .int .i64 0, .int .i64 ((n : Int) - 1)] 61)).alloc (.cells #[.int .i64 x, .int .i64 y, .int .i64 0, .int .i64 0, .int .i64 ((n : Int) - 1), .int .i64 ((n : Int) - 1)] 66)).drew.drew.drewN nq).cell? ⟨w.heap.size + 1, 5, none⟩ = some (.int .i64 ((n : Int) - 1)) := by simp [go_sem]
  have hL : w.heap.size + 1 < ((((w.setCell ⟨b, 1, none⟩ (.int .i64 n)).alloc (.cells #[.int .i64 x, .int .i64 y, .int .i64 0, .int .i64 0, .int .i64 ((n : Int) - 1)] 61)).alloc (.cells #[.int .i64 x, .int .i64 y, .int .i64 0, .int .i64 0, .int .i64 ((n : Int) - 1), .int .i64 ((n : Int) - 1)] 66)).drew.drew.drewN nq).heap.size := by simp [World.drewN]
  clear c0 c1 c2 f0 f1 hbl h hmx
  generalize ((((w.setCell ⟨b, 1, none⟩ (.int .i64 n)).alloc (.cells #[.int .i64 x, .int .i64 y, .int .i64 0, .int .i64 0, .int .i64 ((n : Int) - 1)] 61)).alloc (.cells #[.int .i64 x, .int .i64 y, .int .i64 0, .int .i64 0, .int .i64 ((n : Int) - 1), .int .i64 ((n : Int) - 1)] 66)).drew.drew.drewN nq) = W at hS hO e0 e1 e2 e3 e4 e5 hL ⊢
  have c0 := hS.c0
  have f0 := hS.fz 0
  have hbl := lt_of_heap hS.1
  have HNE := Lib.hid (show some b ≠ (Value.slice a n cap).ownBlock from fun e => hS.ne hb e.symm)
  have K0 := Lib.hid (show (W.alloc (.cells #[.int .i64 x, .int .i64 y, .int .i64 0, .int .i64 0, .int .i64 ((n : Int) - 1), .int .i64 ((n : Int) - 1)] 66)).drew.cell? ⟨b, 0, none⟩ = some (.slice a n cap) from (hS.alloc _).c0)
  have KF := Lib.hid (show (W.alloc (.cells #[.int .i64 x, .int .i64 y, .int .i64 0, .int .i64 0, .int .i64 ((n : Int) - 1), .int .i64 ((n : Int) - 1)] 66)).drew.frozen? ⟨b, 0, none⟩ = false from (hS.alloc _).fz 0)
  have HOWN := Lib.hid (show (W.alloc (.cells #[.int .i64 x, .int .i64 y, .int .i64 0, .int .i64 0, .int .i64 ((n : Int) - 1), .int .i64 ((n : Int) - 1)] 66)).drew.ownsRow B 66 6 (.slice a n cap) n (cells6 f g n) from hS.2.alloc _)
  have HNEWS := Lib.hid (show ∀ j u, [Value.int .i64 x, .int .i64 y, .int .i64 0, .int .i64 0, .int .i64 ((n : Int) - 1), .int .i64 ((n : Int) - 1)][j]? = some u → (W.alloc (.cells #[.int .i64 x, .int .i64 y, .int .i64 0, .int .i64 0, .int .i64 ((n : Int) - 1), .int .i64 ((n : Int) - 1)] 66)).drew.cell? ((⟨W.heap.size, 0, none⟩ : Addr).add j) = some u from cell_six_new W _ _ _ _ _ _ _)
  have H1 := Lib.hid (show ∀ u ∈ [Value.int .i64 x, .int .i64 y, .int .i64 0, .int .i64 0, .int .i64 ((n : Int) - 1), .int .i64 ((n : Int) - 1)], u.oneCell' = true by intro u hu; simp at hu; rcases hu with rfl | rfl | rfl | rfl <;> rfl)
  go_region_law (refine step_append_lies _ rfl (.tmp 48) (.tmp 50) 48 rfl B 66 i0 (.agg #[.int .i64 0, .int .i64 0, .int .i64 0, .int .i64 0, .int .i64 0, .int .i64 0]) 6 48 Try.underlying48 hi hz0 hz1 hz2 rfl (by decide) _ n (cells6 f g n) (by simp [Act.eval]) HOWN.out ⟨W.heap.size, 0, none⟩ 1 1 [Value.int .i64 x, .int .i64 y, .int .i64 0, .int .i64 0, .int .i64 ((n : Int) - 1), .int .i64 ((n : Int) - 1)] (by simp [Act.eval]) rfl HNEWS.out H1.out (by omega) (by unfold maxLen; omega) (by omega) (by simp; omega) _ rfl ?_; intro h1 cap1 w1 hown1 hgrow1 hat1 hlt1; have HG := Lib.hid hgrow1; have k0 := (hgrow1.cell_far ⟨b, 0, none⟩ (by simp; omega) HNE.out).trans K0.out; have k1 := (hgrow1.frozen_far ⟨b, 0, none⟩ (by simp; omega) HNE.out).trans KF.out; clear hgrow1 hat1)
  all_goals
    go_wp2
    go_end0
    obtain ⟨rfl, rfl⟩ := HXY.out
    exact ⟨rfl, push_fin hb hS (by omega) hO hown1 HG.out⟩
end Go.Proofs.Yteiemfmcoofdoaa
