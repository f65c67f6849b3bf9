/- push on a full stack of the call's own: the pair is appended. -/
import Derived.Test.YteoaillidaglbaaStkP
set_option linter.unusedVariables false
namespace Go.Proofs.Yteoaillidaglbaa
open Go.RowKit

theorem own_slice {w : World} {B b : Nat} {ds : List (Int × Int)} {idx lim : Int} {v : Value} (h : Stk w B b ds idx lim v) : ∃ a cap, v = .slice a ds.length cap := by
  rcases h.2.2.2 with ⟨hv, h0⟩ | ⟨g, cap, cur, hv, _⟩
  · exact ⟨none, 0, by rw [hv, h0]⟩
  · exact ⟨_, _, hv⟩

theorem grow_fin {w W w1 : World} {B b n cap g cap1 : Nat} {ds : List (Int × Int)} {i lim x idx : Int} {a : Option Addr} {o : Obj} (hS : Stk W B b ds i lim (.slice a n cap)) (hn : n = ds.length) (hO : Only b (Value.slice a n cap).ownBlock w W) (hL : w.heap.size < W.heap.size)
    (hown1 : w1.ownsRow B 47 2 (.slice (some ⟨g, 0, none⟩) (n + 1) cap1) (n + 1) (cellsOf ds ++ [.iface 3 (.int .i64 x), .int .i64 idx])) (HG : (W.alloc o).drew.grownBy w1 (Value.slice a n cap).ownBlock)
    (HA : (Value.slice a n cap).ownBlock = some g ∨ g = (W.alloc o).drew.heap.size) :
    (∃ v', Stk (w1.setCell ⟨b, 0, none⟩ (.slice (some ⟨g, 0, none⟩) (n + 1) cap1)) B b (ds ++ [(x, idx)]) i lim v' ∧ (v'.ownBlock = (Value.slice a n cap).ownBlock ∨ ∃ k, v'.ownBlock = some k ∧ w.heap.size ≤ k)) ∧ Only b (Value.slice a n cap).ownBlock w (w1.setCell ⟨b, 0, none⟩ (.slice (some ⟨g, 0, none⟩) (n + 1) cap1)) := by
  have hb1 : w1.heap[b]? = some (.cells #[.slice a n cap, .int .i64 i, .int .i64 lim] 45 (0, 0)) :=
    (HG.block b (hS.alloc o).lt (fun e => hS.ne e.symm)).trans (hS.alloc o).1
  have hgb : g ≠ b := by
    rcases HA with h | h
    · intro e; exact hS.ne (by rw [h, e])
    · intro e; have h1 := hS.lt; have h2 : (W.alloc o).drew.heap.size = W.heap.size + 1 := by simp; 
      omega
  refine ⟨⟨.slice (some ⟨g, 0, none⟩) (n + 1) cap1, ⟨?_, hS.2.1, ?_⟩, ?_⟩, ?_⟩
  · rw [heap_setCell_same _ _ _ _ _ _ hb1]; rfl
  · rw [cellsOf_append, List.length_append, List.length_cons, List.length_nil, ← hn]
    exact own_setCell hown1 (fun e => hgb (by simpa [Value.ownBlock] using e)) _
  · rcases HA with h | h
    · left; rw [h]; rfl
    · right; exact ⟨g, rfl, by have h2 : (W.alloc o).drew.heap.size = W.heap.size + 1 := by simp
                               omega⟩
  · have h3 : Only b (Value.slice a n cap).ownBlock w w1 := by
      have hA := (hO.alloc o).drew
      exact ⟨HG.os.trans hA.os, HG.tape.trans hA.tape, HG.output.trans hA.output, Nat.le_trans hA.size HG.size, fun k hk h1 h2 => (HG.block k (Nat.lt_of_lt_of_le hk hA.size) h2).trans (hA.block k hk h1 h2)⟩
    exact h3.set 0 _

set_option maxRecDepth 100000 in
theorem push_growA (w : World) (B b : Nat) (ds : List (Int × Int)) (idx : Int) (n : Nat) (a : Option Addr) (cap : Nat) (x : Int) (h : Stk w B b ds idx ((n : Int) - 1) (.slice a n cap)) (hn : n = ds.length) (hlen : n ≤ 2097152) (hlt : idx < (n : Int) - 1) (hB : B ≤ w.heap.size) :
    Calls Try.prog 12 #[.pointer (some ⟨b, 0, none⟩), .int .i64 x] w fun e w' => e = .returned (.tuple #[]) ∧ (∃ v', Stk w' B b (ds ++ [(x, idx)]) n ((n : Int) - 1) v' ∧ (v'.ownBlock = (Value.slice a n cap).ownBlock ∨ ∃ k, v'.ownBlock = some k ∧ w.heap.size ≤ k)) ∧ Only b (Value.slice a n cap).ownBlock w w' := by
  obtain ⟨i0, hi, hz0, hz1, hz2⟩ := info_parts Try.infoB
  have c0 := h.c0
  have c1 := h.c1
  have c2 := h.c2
  have f0 := h.fz 0
  have f1 := h.fz 1
  have hbl := h.lt
  have HN := Lib.hid hn
  clear hn
  go_enter Try.func12, Try.ntmps12
  go_wp2
  go_region
  go_wp2
  go_quiet (fail)
  go_wp2
  have hS : Stk (((w.setCell ⟨b, 1, none⟩ (.int .i64 n)).alloc (.cells #[.iface 3 (.int .i64 x), .int .i64 idx] 47)).drew.drewN nq) B b ds n ((n : Int) - 1) (.slice a n cap) := (h.set1 n).alloc _
  have hO : Only b (Value.slice a n cap).ownBlock w (((w.setCell ⟨b, 1, none⟩ (.int .i64 n)).alloc (.cells #[.iface 3 (.int .i64 x), .int .i64 idx] 47)).drew.drewN nq) := (((Only.refl _ _ _).set _ _).alloc _).drew.drewN _
  have e0 : (((w.setCell ⟨b, 1, none⟩ (.int .i64 n)).alloc (.cells #[.iface 3 (.int .i64 x), .int .i64 idx] 47)).drew.drewN nq).cell? ⟨w.heap.size, 0, none⟩ = some (.iface 3 (.int .i64 x)) := by simp [go_sem]
  have e1 : (((w.setCell ⟨b, 1, none⟩ (.int .i64 n)).alloc (.cells #[.iface 3 (.int .i64 x), .int .i64 idx] 47)).drew.drewN nq).cell? ⟨w.heap.size, 1, none⟩ = some (.int .i64 idx) := by simp [go_sem]
  have hL : w.heap.size < (((w.setCell ⟨b, 1, none⟩ (.int .i64 n)).alloc (.cells #[.iface 3 (.int .i64 x), .int .i64 idx] 47)).drew.drewN nq).heap.size := by simp [World.drewN]
  clear c0 c1 c2 f0 f1 hbl
  generalize (((w.setCell ⟨b, 1, none⟩ (.int .i64 n)).alloc (.cells #[.iface 3 (.int .i64 x), .int .i64 idx] 47)).drew.drewN nq) = W at hS hO e0 e1 hL ⊢
  have c0 := hS.c0
  have f0 := hS.fz 0
  have hbl := hS.lt
  have HNE := Lib.hid (show some b ≠ (Value.slice a n cap).ownBlock from fun e => hS.ne e.symm)
  have K0 := Lib.hid (show (W.alloc (.cells #[.iface 3 (.int .i64 x), .int .i64 idx] 47)).drew.cell? ⟨b, 0, none⟩ = some (.slice a n cap) from (hS.alloc _).c0)
  have KF := Lib.hid (show (W.alloc (.cells #[.iface 3 (.int .i64 x), .int .i64 idx] 47)).drew.frozen? ⟨b, 0, none⟩ = false from (hS.alloc _).fz 0)
  have HOWN := Lib.hid (show (W.alloc (.cells #[.iface 3 (.int .i64 x), .int .i64 idx] 47)).drew.ownsRow B 47 2 (.slice a n cap) n (cellsOf ds) by have := hS.2.2.alloc (.cells #[.iface 3 (.int .i64 x), .int .i64 idx] 47); rw [← HN.out] at this; exact this)
  have HNEWS := Lib.hid (show ∀ j u, [Value.iface 3 (.int .i64 x), .int .i64 idx][j]? = some u → (W.alloc (.cells #[.iface 3 (.int .i64 x), .int .i64 idx] 47)).drew.cell? ((⟨W.heap.size, 0, none⟩ : Addr).add j) = some u from cell_two_new W _ _ _)
  have H1 := Lib.hid (show ∀ u ∈ [Value.iface 3 (.int .i64 x), .int .i64 idx], u.oneCell' = true by intro u hu; simp at hu; rcases hu with rfl | rfl <;> rfl)
  go_region_law (refine step_append_lies _ rfl (.tmp 48) (.tmp 50) 43 rfl B 47 i0 (.agg #[.nilIface, .int .i64 0]) 2 24 Try.underlying43 hi hz0 hz1 hz2 rfl (by decide) _ n (cellsOf ds) (by simp [Act.eval]) HOWN.out ⟨W.heap.size, 0, none⟩ 1 1 [.iface 3 (.int .i64 x), .int .i64 idx] (by simp [Act.eval]) rfl HNEWS.out H1.out (by omega) (by unfold maxLen; omega) (by omega) (by simp; omega) _ rfl ?_; intro g cap1 w1 hown1 hgrow1 hat1 hlt1; have HG := Lib.hid hgrow1; have HA := Lib.hid hat1; have k0 := (hgrow1.cell_far ⟨b, 0, none⟩ (by simp; omega) HNE.out).trans K0.out; have k1 := (hgrow1.frozen_far ⟨b, 0, none⟩ (by simp; omega) HNE.out).trans KF.out; clear hgrow1 hat1)
  all_goals
    go_wp2
    go_end0
    exact ⟨rfl, grow_fin hS HN.out hO hL hown1 HG.out HA.out⟩
set_option maxRecDepth 100000 in
theorem push_growB (w : World) (B b : Nat) (ds : List (Int × Int)) (lim : Int) (n : Nat) (a : Option Addr) (cap : Nat) (x : Int) (h : Stk w B b ds ((n : Int) - 1) lim (.slice a n cap)) (hn : n = ds.length) (hlen : n ≤ 2097152) (hlt : lim ≤ (n : Int) - 1) (hB : B ≤ w.heap.size) :
    Calls Try.prog 12 #[.pointer (some ⟨b, 0, none⟩), .int .i64 x] w fun e w' => e = .returned (.tuple #[]) ∧ (∃ v', Stk w' B b (ds ++ [(x, (n : Int) - 1)]) n lim v' ∧ (v'.ownBlock = (Value.slice a n cap).ownBlock ∨ ∃ k, v'.ownBlock = some k ∧ w.heap.size ≤ k)) ∧ Only b (Value.slice a n cap).ownBlock w w' := by
  obtain ⟨i0, hi, hz0, hz1, hz2⟩ := info_parts Try.infoB
  have c0 := h.c0
  have c1 := h.c1
  have c2 := h.c2
  have f0 := h.fz 0
  have f1 := h.fz 1
  have hbl := h.lt
  have HN := Lib.hid hn
  clear hn
  go_enter Try.func12, Try.ntmps12
  go_wp2
  go_region
  go_wp2
  go_quiet (fail)
  go_wp2
  have hS : Stk (((w.setCell ⟨b, 1, none⟩ (.int .i64 n)).alloc (.cells #[.iface 3 (.int .i64 x), .int .i64 ((n : Int) - 1)] 47)).drew.drewN nq) B b ds n lim (.slice a n cap) := (h.set1 n).alloc _
  have hO : Only b (Value.slice a n cap).ownBlock w (((w.setCell ⟨b, 1, none⟩ (.int .i64 n)).alloc (.cells #[.iface 3 (.int .i64 x), .int .i64 ((n : Int) - 1)] 47)).drew.drewN nq) := (((Only.refl _ _ _).set _ _).alloc _).drew.drewN _
  have e0 : (((w.setCell ⟨b, 1, none⟩ (.int .i64 n)).alloc (.cells #[.iface 3 (.int .i64 x), .int .i64 ((n : Int) - 1)] 47)).drew.drewN nq).cell? ⟨w.heap.size, 0, none⟩ = some (.iface 3 (.int .i64 x)) := by simp [go_sem]
  have e1 : (((w.setCell ⟨b, 1, none⟩ (.int .i64 n)).alloc (.cells #[.iface 3 (.int .i64 x), .int .i64 ((n : Int) - 1)] 47)).drew.drewN nq).cell? ⟨w.heap.size, 1, none⟩ = some (.int .i64 ((n : Int) - 1)) := by simp [go_sem]
  have hL : w.heap.size < (((w.setCell ⟨b, 1, none⟩ (.int .i64 n)).alloc (.cells #[.iface 3 (.int .i64 x), .int .i64 ((n : Int) - 1)] 47)).drew.drewN nq).heap.size := by simp [World.drewN]
  clear c0 c1 c2 f0 f1 hbl
  generalize (((w.setCell ⟨b, 1, none⟩ (.int .i64 n)).alloc (.cells #[.iface 3 (.int .i64 x), .int .i64 ((n : Int) - 1)] 47)).drew.drewN nq) = W at hS hO e0 e1 hL ⊢
  have c0 := hS.c0
  have f0 := hS.fz 0
  have hbl := hS.lt
  have HNE := Lib.hid (show some b ≠ (Value.slice a n cap).ownBlock from fun e => hS.ne e.symm)
  have K0 := Lib.hid (show (W.alloc (.cells #[.iface 3 (.int .i64 x), .int .i64 ((n : Int) - 1)] 47)).drew.cell? ⟨b, 0, none⟩ = some (.slice a n cap) from (hS.alloc _).c0)
  have KF := Lib.hid (show (W.alloc (.cells #[.iface 3 (.int .i64 x), .int .i64 ((n : Int) - 1)] 47)).drew.frozen? ⟨b, 0, none⟩ = false from (hS.alloc _).fz 0)
  have HOWN := Lib.hid (show (W.alloc (.cells #[.iface 3 (.int .i64 x), .int .i64 ((n : Int) - 1)] 47)).drew.ownsRow B 47 2 (.slice a n cap) n (cellsOf ds) by have := hS.2.2.alloc (.cells #[.iface 3 (.int .i64 x), .int .i64 ((n : Int) - 1)] 47); rw [← HN.out] at this; exact this)
  have HNEWS := Lib.hid (show ∀ j u, [Value.iface 3 (.int .i64 x), .int .i64 ((n : Int) - 1)][j]? = some u → (W.alloc (.cells #[.iface 3 (.int .i64 x), .int .i64 ((n : Int) - 1)] 47)).drew.cell? ((⟨W.heap.size, 0, none⟩ : Addr).add j) = some u from cell_two_new W _ _ _)
  have H1 := Lib.hid (show ∀ u ∈ [Value.iface 3 (.int .i64 x), .int .i64 ((n : Int) - 1)], u.oneCell' = true by intro u hu; simp at hu; rcases hu with rfl | rfl <;> rfl)
  go_region_law (refine step_append_lies _ rfl (.tmp 48) (.tmp 50) 43 rfl B 47 i0 (.agg #[.nilIface, .int .i64 0]) 2 24 Try.underlying43 hi hz0 hz1 hz2 rfl (by decide) _ n (cellsOf ds) (by simp [Act.eval]) HOWN.out ⟨W.heap.size, 0, none⟩ 1 1 [.iface 3 (.int .i64 x), .int .i64 ((n : Int) - 1)] (by simp [Act.eval]) rfl HNEWS.out H1.out (by omega) (by unfold maxLen; omega) (by omega) (by simp; omega) _ rfl ?_; intro g cap1 w1 hown1 hgrow1 hat1 hlt1; have HG := Lib.hid hgrow1; have HA := Lib.hid hat1; have k0 := (hgrow1.cell_far ⟨b, 0, none⟩ (by simp; omega) HNE.out).trans K0.out; have k1 := (hgrow1.frozen_far ⟨b, 0, none⟩ (by simp; omega) HNE.out).trans KF.out; clear hgrow1 hat1)
  all_goals
    go_wp2
    go_end0
    exact ⟨rfl, grow_fin hS HN.out hO hL hown1 HG.out HA.out⟩
end Go.Proofs.Yteoaillidaglbaa
