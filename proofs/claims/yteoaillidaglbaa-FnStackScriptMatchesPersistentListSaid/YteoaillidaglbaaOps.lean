/- push on any stack of the call's own, and the small helpers of the laws: what an argument slice reads, zzValAt. Conditions: as stated. -/
import Derived.Test.YteoaillidaglbaaStkG
set_option linter.unusedVariables false
namespace Go.Proofs.Yteoaillidaglbaa
open Go.RowKit

/-- What a push leaves. -/
def Pushed (w : World) (B b : Nat) (ds : List (Int × Int)) (idx lim : Int) (v : Value) (x : Int) (w' : World) : Prop :=
  (∃ v', Stk w' B b (pushDs ds idx lim x) (max idx lim + 1) lim v' ∧ (v'.ownBlock = v.ownBlock ∨ ∃ k, v'.ownBlock = some k ∧ w.heap.size ≤ k)) ∧ Only b v.ownBlock w w'

theorem push_any (w : World) (B b : Nat) (ds : List (Int × Int)) (idx lim : Int) (v : Value) (x : Int) (h : Stk w B b ds idx lim v) (hv : Inv ds idx lim) (hlen : ds.length ≤ 2097152) (hB : B ≤ w.heap.size) :
    Calls Try.prog 12 #[.pointer (some ⟨b, 0, none⟩), .int .i64 x] w fun e w' => e = .returned (.tuple #[]) ∧ Pushed w B b ds idx lim v x w' := by
  have hix := ix_int hv
  have hle := ix_le hv
  obtain ⟨a, cap, rfl⟩ := own_slice h
  by_cases hr : ix idx lim < ds.length
  · have e1 : pushDs ds idx lim x = ds.set (ix idx lim) (x, idx) := by unfold pushDs; rw [if_pos hr]
    obtain ⟨g, cap', hv', _, _⟩ := h.2.2.form (by omega)
    cases hv'
    unfold Pushed
    rw [e1]
    by_cases hlt : idx < lim
    · obtain ⟨j, hj⟩ : ∃ j : Nat, lim = (j : Int) - 1 := ⟨(lim + 1).toNat, by have := hv.l0; omega⟩
      subst hj
      have ej : ix idx ((j : Int) - 1) = j := by omega
      have em : max idx ((j : Int) - 1) + 1 = j := by omega
      rw [ej] at hr; rw [ej, em]
      refine (push_roomA w B b ds idx j g cap x h hlen hr hlt).mono ?_
      rintro e w' ⟨rfl, h1, h2⟩
      exact ⟨rfl, ⟨_, h1, Or.inl rfl⟩, h2⟩
    · obtain ⟨j, hj⟩ : ∃ j : Nat, idx = (j : Int) - 1 := ⟨(idx + 1).toNat, by have := hv.i0; omega⟩
      subst hj
      have ej : ix ((j : Int) - 1) lim = j := by omega
      have em : max ((j : Int) - 1) lim + 1 = j := by omega
      rw [ej] at hr; rw [ej, em]
      refine (push_roomB w B b ds lim j g cap x h hlen hr (by omega)).mono ?_
      rintro e w' ⟨rfl, h1, h2⟩
      exact ⟨rfl, ⟨_, h1, Or.inl rfl⟩, h2⟩
  · have e1 : pushDs ds idx lim x = ds ++ [(x, idx)] := by unfold pushDs; rw [if_neg hr]
    have e2 : ix idx lim = ds.length := by omega
    unfold Pushed
    rw [e1]
    generalize hn : ds.length = n at h hlen hle hr e2
    by_cases hlt : idx < lim
    · have hj : lim = (n : Int) - 1 := by omega
      subst hj
      have em : max idx ((n : Int) - 1) + 1 = n := by omega
      rw [em]
      exact push_growA w B b ds idx n a cap x h hn.symm hlen hlt hB
    · have hj : idx = (n : Int) - 1 := by omega
      subst hj
      have em : max ((n : Int) - 1) lim + 1 = n := by omega
      rw [em]
      exact push_growB w B b ds lim n a cap x h hn.symm hlen (by omega) hB

/-- A slice that came in: it reads the numbers f. -/
def RowIn (kd : IntKind) (w : World) (a : Option Addr) (n : Nat) (f : Nat → Int) : Prop :=
  n = 0 ∨ ∃ x, a = some x ∧ ∀ i, i < n → w.cell? (x.add i) = some (.int kd (f i))
theorem RowIn.at_ {kd : IntKind} {w w' : World} {a : Option Addr} {n k : Nat} {f : Nat → Int} (h : RowIn kd w a n f) (hk : k < n) (hb : Below w.heap.size w w') : ∃ x, a = some x ∧ w'.cell? (x.add k) = some (.int kd (f k)) := by
  rcases h with h | ⟨x, rfl, hx⟩
  · omega
  · exact ⟨x, rfl, (hb.cell (block_lt_of_cell (hx k hk))).trans (hx k hk)⟩
theorem RowIn.cell {kd : IntKind} {w w' : World} {x : Addr} {n k : Nat} {f : Nat → Int} (h : RowIn kd w (some x) n f) (hk : k < n) (hb : Below w.heap.size w w') : w'.cell? (x.add k) = some (.int kd (f k)) := by
  obtain ⟨y, e, hc⟩ := h.at_ hk hb
  injection e with e
  rw [e]; exact hc

/-- zzValAt. -/
theorem valAt (a : Option Addr) (n c : Nat) (f : Nat → Int) (i : Int) (w w0 : World) (h : RowIn .i64 w0 a n f) (hb : Below w0.heap.size w0 w) (hn : n ≤ 1048576) (i0 : 0 ≤ i) (hi : i ≤ 4194304) :
    Calls Try.prog 11 #[.slice a n c, .int .i64 i] w fun e w' => (∃ r : Int, e = .returned (.int .i64 r)) ∧ w = w' := by
  obtain ⟨j, rfl⟩ : ∃ j : Nat, i = (j : Int) := ⟨i.toNat, by omega⟩
  by_cases h0 : n = 0
  · subst h0
    go_enter Try.func11, Try.ntmps11
    go_wp2
    go_ret
    exact ⟨⟨_, rfl⟩, rfl⟩
  · have hlt : j % n < n := Nat.mod_lt _ (by omega)
    obtain ⟨x, rfl, hc⟩ := h.at_ hlt hb
    have e0 : ((n : Int) == 0) = false := by simp; omega
    have hm : ((j : Int) % (n : Int)).toNat = j % n := by omega
    go_enter Try.func11, Try.ntmps11
    go_wp2
    go_ret
    exact ⟨⟨_, rfl⟩, rfl⟩
theorem zzb19 (a : Option Addr) (n c : Nat) (w : World) (h : n ≤ 1048576) : Calls Try.prog 19 #[.slice a n c] w fun e w' => e = .returned (.bool true) ∧ w = w' := by
  go_enter Try.func19, Try.ntmps19
  go_wp2
  go_ret
  exact ⟨rfl, rfl⟩
theorem zzb18 (a a' : Option Addr) (n c n' c' : Nat) (w : World) (h : n + n' ≤ 1048576) : Calls Try.prog 18 #[.slice a n c, .slice a' n' c'] w fun e w' => e = .returned (.bool true) ∧ w = w' := by
  go_enter Try.func18, Try.ntmps18
  go_wp2
  go_ret
  exact ⟨rfl, rfl⟩
theorem zzb17 (a a' : Option Addr) (n c n' c' : Nat) (w : World) (h : n + n' ≤ 1048576) : Calls Try.prog 17 #[.slice a n c, .slice a' n' c'] w fun e w' => e = .returned (.bool true) ∧ w = w' := by
  go_enter Try.func17, Try.ntmps17
  go_wp2
  go_ret
  exact ⟨rfl, rfl⟩
theorem zzb7 (a a' a'' b : Option Addr) (n c n' c' n'' c'' m d : Nat) (w : World) (h : n + n' + n'' + m ≤ 1048576) : Calls Try.prog 7 #[.slice a n c, .slice a' n' c', .slice a'' n'' c'', .slice b m d] w fun e w' => e = .returned (.bool true) ∧ w = w' := by
  go_enter Try.func7, Try.ntmps7
  go_wp2
  go_ret
  exact ⟨rfl, rfl⟩
theorem empty_yes (w : World) (B b : Nat) (ds : List (Int × Int)) (idx lim : Int) (v : Value) (h : Stk w B b ds idx lim v) (hi : idx < 0) :
    Calls Try.prog 13 #[.pointer (some ⟨b, 0, none⟩)] w fun e w' => e = .returned (.bool true) ∧ w = w' := by
  have := empty_any w B b ds idx lim v h
  rw [decide_eq_true hi] at this; exact this
theorem empty_no (w : World) (B b : Nat) (ds : List (Int × Int)) (idx lim : Int) (v : Value) (h : Stk w B b ds idx lim v) (hi : ¬ idx < 0) :
    Calls Try.prog 13 #[.pointer (some ⟨b, 0, none⟩)] w fun e w' => e = .returned (.bool false) ∧ w = w' := by
  have := empty_any w B b ds idx lim v h
  rw [decide_eq_false hi] at this; exact this
theorem mod3 (c : Int) (h0 : 0 ≤ c) : (c % 3 = 0 ∨ c % 3 = 1) ∨ c % 3 = 2 := by omega
theorem only_below {b B : Nat} {g : Option Nat} {a w w' : World} (h : Only b g w w') (hb : Below B a w) (hB : B ≤ w.heap.size) (h1 : B ≤ b) {ds : List (Int × Int)} {v : Value} (ho : w.ownsRow B 47 2 v ds.length (cellsOf ds)) (hg : g = v.ownBlock ∨ g = none) : Below B a w' :=
  h.below hb hB h1 (fun k e => by
    rcases hg with rfl | rfl
    · exact (ho.lt k e).1
    · cases e)
end Go.Proofs.Yteoaillidaglbaa
