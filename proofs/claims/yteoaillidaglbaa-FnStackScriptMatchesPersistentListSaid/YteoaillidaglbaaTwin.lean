/- Two stacks of the call's own that hold the same values: zzTwin and zzDrainTwin keep them alike and answer true. Conditions: at most 2^21 pairs. -/
import Derived.Test.YteoaillidaglbaaOps
set_option linter.unusedVariables false
namespace Go.Proofs.Yteoaillidaglbaa
open Go.RowKit

theorem Stk.cross {w : World} {B p q : Nat} {da db : List (Int × Int)} {ia la ib lb : Int} {va vb : Value} (h : Stk w B p da ia la va) (h' : Stk w B q db ib lb vb) : va.ownBlock ≠ some q := by
  rcases h.2.2.2 with ⟨hv, _⟩ | ⟨g, cap, cur, hv, _, hg, _⟩
  · rw [hv]; simp [Value.ownBlock]
  · rw [hv]
    intro e
    have : g = q := by simpa [Value.ownBlock] using e
    subst this
    rw [h'.1] at hg
    injection hg with hg
    injection hg with _ ht
    exact absurd ht (by decide)
theorem Stk.far {w w' : World} {B p q : Nat} {g : Option Nat} {ds : List (Int × Int)} {i l : Int} {v : Value} (h : Stk w B q ds i l v) (hO : Only p g w w') (hne : q ≠ p) (hq : some q ≠ g) (hp : v.ownBlock ≠ some p) (hg : ∀ k, v.ownBlock = some k → some k ≠ g) : Stk w' B q ds i l v := by
  refine ⟨(hO.block q h.lt hne hq).trans h.1, h.2.1, h.2.2.1, ?_⟩
  rcases h.2.2.2 with h2 | ⟨k, cap, cur, hv, hk, hh, r⟩
  · exact Or.inl h2
  · refine Or.inr ⟨k, cap, cur, hv, hk, ?_, r⟩
    have e : v.ownBlock = some k := by rw [hv]; rfl
    exact (hO.block k (h.2.2.lt k e).2 (fun e' => hp (by rw [e, e'])) (hg k e)).trans hh

def Sep (va vb : Value) : Prop := ∀ k, va.ownBlock = some k → vb.ownBlock ≠ some k
theorem Sep.symm {va vb : Value} (h : Sep va vb) : Sep vb va := fun k e e' => h k e' e
/-- One of the two has changed its row: it is the old one or a new one. -/
theorem Sep.push {w : World} {B q : Nat} {va va' vb : Value} {db : List (Int × Int)} {ib lb : Int} (h : Sep va vb) (hb : Stk w B q db ib lb vb) (hv : va'.ownBlock = va.ownBlock ∨ ∃ k, va'.ownBlock = some k ∧ w.heap.size ≤ k) : Sep va' vb := by
  intro k e e'
  rcases hv with hv | ⟨j, hj, hle⟩
  · exact h k (hv ▸ e) e'
  · have h1 := (hb.2.2.lt k e').2
    rw [hj] at e
    injection e with e
    omega

/-- Two stacks at p and q that hold xs, each of at most N pairs. -/
def Twin (w : World) (B p q N : Nat) (xs : List Int) : Prop :=
  ∃ da ia la va db ib lb vb, Stk w B p da ia la va ∧ Stk w B q db ib lb vb ∧ Inv da ia la ∧ Inv db ib lb ∧ Chain da ia xs ∧ Chain db ib xs ∧ da.length ≤ N ∧ db.length ≤ N ∧ p ≠ q ∧ Sep va vb

theorem Twin.len {w : World} {B p q N : Nat} {xs : List Int} (h : Twin w B p q N xs) : xs.length ≤ N := by
  obtain ⟨da, ia, la, va, db, ib, lb, vb, _, _, hI, _, hC, _, hl, _⟩ := h
  have := hI.i1
  rcases hC.len with h | rfl
  · omega
  · simp
theorem Twin.more {w : World} {B p q N M : Nat} {xs : List Int} (h : Twin w B p q N xs) (hM : N ≤ M) : Twin w B p q M xs := by
  obtain ⟨da, ia, la, va, db, ib, lb, vb, h1, h2, h3, h4, h5, h6, h7, h8, h9⟩ := h
  exact ⟨da, ia, la, va, db, ib, lb, vb, h1, h2, h3, h4, h5, h6, by omega, by omega, h9⟩

set_option maxRecDepth 100000 in
theorem twin_push (w : World) (B p q N : Nat) (xs : List Int) (op x : Int) (h : Twin w B p q N xs) (hN : N ≤ 2097152) (hB : B ≤ w.heap.size) (o0 : 0 ≤ op) (o1 : op < 256) (ho : (op % 3 == 0) = true) :
    Calls Try.prog 10 #[.pointer (some ⟨p, 0, none⟩), .pointer (some ⟨q, 0, none⟩), .int .u8 op, .int .i64 x] w fun e w' => e = .returned (.bool true) ∧ (∃ ys, Twin w' B p q (N + 1) ys ∧ ys.length ≤ xs.length + 1) ∧ Below B w w' := by
  obtain ⟨da, ia, la, va, db, ib, lb, vb, ha, hb, hIa, hIb, hCa, hCb, hla, hlb, hne, hsep⟩ := h
  have hx1 := hb.cross ha
  have hx2 := ha.cross hb
  have HX1 := Lib.hid hx1
  have HX2 := Lib.hid hx2
  clear hx1 hx2
  go_enter Try.func10, Try.ntmps10
  go_wp2_with fail
  refine (push_any _ _ _ _ _ _ _ x ha hIa (by omega) hB).mono ?_
  rintro e w1 ⟨rfl, ⟨va1, ha1, hv1⟩, hO1⟩
  have hb1 := hb.far hO1 (fun e => hne e.symm) (fun e => HX2.out e.symm) HX1.out (fun k e e' => hsep k e'.symm e)
  have hs1 := hsep.push hb hv1
  have B1 := only_below hO1 (Below.refl B w) hB ha.2.1 ha.2.2 (Or.inl rfl)
  have L1 := hO1.size
  have HV1 := Lib.hid hv1
  clear hv1
  go_wp2_with fail
  refine (push_any _ _ _ _ _ _ _ x hb1 hIb (by omega) (by omega)).mono ?_
  rintro e w2 ⟨rfl, ⟨vb2, hb2, hv2⟩, hO2⟩
  have hx3 := ha1.cross hb1
  have hx4 := hb1.cross ha1
  have ha2 := ha1.far hO2 hne (fun e => hx4 e.symm) hx3 (fun k e e' => hs1 k e e'.symm)
  have hs2 := (hs1.symm.push ha1 hv2).symm
  have B2 := only_below hO2 B1 (by omega) hb1.2.1 hb1.2.2 (Or.inl rfl)
  have HV2 := Lib.hid hv2
  clear hv2 hx3 hx4
  go_wp2_with fail
  go_ret
  exact ⟨rfl, ⟨x :: xs, ⟨_, _, _, _, _, _, _, _, ha2, hb2, hIa.push x, hIb.push x, hCa.push x hIa, hCb.push x hIb, by have := (pushDs_len x hIa).2.1; omega, by have := (pushDs_len x hIb).2.1; omega, hne, hs2⟩, by simp⟩, B2⟩

set_option maxRecDepth 100000 in
theorem twin_pop (w : World) (B p q N : Nat) (xs : List Int) (op x : Int) (h : Twin w B p q N xs) (hN : N ≤ 2097152) (hB : B ≤ w.heap.size) (o0 : 0 ≤ op) (o1 : op < 256) (ho : (op % 3 == 0) = false) (ho1 : (op % 3 == 1) = true) :
    Calls Try.prog 10 #[.pointer (some ⟨p, 0, none⟩), .pointer (some ⟨q, 0, none⟩), .int .u8 op, .int .i64 x] w fun e w' => e = .returned (.bool true) ∧ (∃ ys, Twin w' B p q (N + 1) ys ∧ ys.length ≤ xs.length + 1) ∧ Below B w w' := by
  have hT := h.more (Nat.le_succ N)
  obtain ⟨da, ia, la, va, db, ib, lb, vb, ha, hb, hIa, hIb, hCa, hCb, hla, hlb, hne, hsep⟩ := h
  have hx1 := hb.cross ha
  have hx2 := ha.cross hb
  have HX1 := Lib.hid hx1
  have HX2 := Lib.hid hx2
  clear hx1 hx2
  by_cases hi : ia < 0
  · have hj : ib < 0 := hCb.neg.2 (hCa.neg.1 hi)
    go_enter Try.func10, Try.ntmps10
    go_wp2_with fail
    refine (empty_yes _ _ _ _ _ _ _ ha hi).mono ?_
    rintro e w1 ⟨rfl, rfl⟩
    go_wp2_with fail
    refine (empty_yes _ _ _ _ _ _ _ hb hj).mono ?_
    rintro e w1 ⟨rfl, rfl⟩
    go_wp2_with fail
    go_ret
    exact ⟨rfl, ⟨xs, hT, by omega⟩, Below.refl _ _⟩
  · have hj : ¬ ib < 0 := fun h => hi (hCa.neg.2 (hCb.neg.1 h))
    obtain ⟨y, na, t, rfl, hpa, hna, hCta⟩ := hCa.pop (by omega)
    obtain ⟨y', nb, t', e', hpb, hnb, hCtb⟩ := hCb.pop (by omega)
    injection e' with e1 e2
    subst e1 e2
    clear hT
    go_enter Try.func10, Try.ntmps10
    go_wp2_with fail
    refine (empty_no _ _ _ _ _ _ _ ha (by omega)).mono ?_
    rintro e w1 ⟨rfl, rfl⟩
    go_wp2_with fail
    refine (empty_no _ _ _ _ _ _ _ hb (by omega)).mono ?_
    rintro e w1 ⟨rfl, rfl⟩
    go_wp2_with fail
    refine (pop_any _ _ _ _ _ _ _ y na ha (by omega) hpa (by omega)).mono ?_
    rintro e w1 ⟨rfl, ha1, hO1⟩
    have hb1 := hb.far hO1 (fun e => hne e.symm) (fun e => by cases e) HX1.out (fun k _ e' => by cases e')
    have B1 := only_below hO1 (Below.refl B w) hB ha.2.1 ha.2.2 (Or.inr rfl)
    have L1 := hO1.size
    go_wp2_with fail
    refine (pop_any _ _ _ _ _ _ _ y nb hb1 (by omega) hpb (by omega)).mono ?_
    rintro e w2 ⟨rfl, hb2, hO2⟩
    have ha2 := ha1.far hO2 hne (fun e => by cases e) HX2.out (fun k _ e' => by cases e')
    have B2 := only_below hO2 B1 (by omega) hb1.2.1 hb1.2.2 (Or.inr rfl)
    go_wp2_with fail
    go_ret
    exact ⟨rfl, ⟨t, ⟨_, _, _, _, _, _, _, _, ha2, hb2, hIa.pop (by omega) hpa, hIb.pop (by omega) hpb, hCta, hCtb, by omega, by omega, hne, hsep⟩, by first | omega | (simp only [List.length_cons]; omega)⟩, B2⟩

theorem twin_op (w : World) (B p q N : Nat) (xs : List Int) (op x : Int) (h : Twin w B p q N xs) (hN : N ≤ 2097152) (hB : B ≤ w.heap.size) (o0 : 0 ≤ op) (o1 : op < 256) (ho : (op % 3 == 2) = false) :
    Calls Try.prog 10 #[.pointer (some ⟨p, 0, none⟩), .pointer (some ⟨q, 0, none⟩), .int .u8 op, .int .i64 x] w fun e w' => e = .returned (.bool true) ∧ (∃ ys, Twin w' B p q (N + 1) ys ∧ ys.length ≤ xs.length + 1) ∧ Below B w w' := by
  rcases mod3 op o0 with (h3 | h3) | h3
  · exact twin_push w B p q N xs op x h hN hB o0 o1 (by simp [h3])
  · exact twin_pop w B p q N xs op x h hN hB o0 o1 (by simp [h3]) (by simp [h3])
  · simp [h3] at ho

set_option maxRecDepth 100000 in
theorem drain (w : World) (B p q N M : Nat) (Mi : Int) (hMi : Mi = M) (xs : List Int) (h : Twin w B p q N xs) (hl : xs.length ≤ M) (hN : N ≤ 2097152) (hM : M ≤ 2097152) (hB : B ≤ w.heap.size) :
    Calls Try.prog 16 #[.pointer (some ⟨p, 0, none⟩), .pointer (some ⟨q, 0, none⟩), .int .i64 Mi] w fun e w' => e = .returned (.bool true) ∧ Below B w w' := by
  subst hMi
  go_enter Try.func16, Try.ntmps16
  go_wp2_with fail
  go_loopw [7] (fun i wr => ∃ k : Nat, i = .int .i64 k ∧ (∃ ys, Twin wr B p q N ys ∧ ys.length + k ≤ M) ∧ Below B w wr) (fun i _ => M + 1 - (intOf i).toNat)
  case atStart => exact ⟨0, rfl, ⟨xs, h, by omega⟩, Below.refl _ _⟩
  case round =>
    obtain ⟨k, rfl, ⟨ys, hT, hy⟩, hbl⟩ := hrel
    have LB := hbl.size
    obtain ⟨da, ia, la, va, db, ib, lb, vb, ha, hb, hIa, hIb, hCa, hCb, hla, hlb, hne, hsep⟩ := hT
    have HX1 := Lib.hid (hb.cross ha)
    have HX2 := Lib.hid (ha.cross hb)
    by_cases hi : ia < 0
    · have hj : ib < 0 := hCb.neg.2 (hCa.neg.1 hi)
      go_wp2_with fail
      refine (empty_yes _ _ _ _ _ _ _ ha hi).mono ?_
      rintro e w1 ⟨rfl, rfl⟩
      go_wp2_with fail
      refine (empty_yes _ _ _ _ _ _ _ hb hj).mono ?_
      rintro e w1 ⟨rfl, rfl⟩
      go_wp2_with fail
      go_ret
      exact ⟨rfl, hbl⟩
    · have hj : ¬ ib < 0 := fun h => hi (hCa.neg.2 (hCb.neg.1 h))
      obtain ⟨y, na, t, rfl, hpa, hna, hCta⟩ := hCa.pop (by omega)
      obtain ⟨y', nb, t', e', hpb, hnb, hCtb⟩ := hCb.pop (by omega)
      injection e' with e1 e2
      subst e1 e2
      rw [List.length_cons] at hy
      go_wp2_with fail
      refine (empty_no _ _ _ _ _ _ _ ha (by omega)).mono ?_
      rintro e w1 ⟨rfl, rfl⟩
      go_wp2_with fail
      refine (empty_no _ _ _ _ _ _ _ hb (by omega)).mono ?_
      rintro e w1 ⟨rfl, rfl⟩
      go_wp2_with fail
      refine (pop_any _ _ _ _ _ _ _ y na ha (by omega) hpa (by omega)).mono ?_
      rintro e w1 ⟨rfl, ha1, hO1⟩
      have hb1 := hb.far hO1 (fun e => hne e.symm) (fun e => by cases e) HX1.out (fun k _ e' => by cases e')
      have B1 := only_below hO1 hbl (by omega) ha.2.1 ha.2.2 (Or.inr rfl)
      have L1 := hO1.size
      go_wp2_with fail
      refine (pop_any _ _ _ _ _ _ _ y nb hb1 (by omega) hpb (by omega)).mono ?_
      rintro e w2 ⟨rfl, hb2, hO2⟩
      have ha2 := ha1.far hO2 hne (fun e => by cases e) HX2.out (fun k _ e' => by cases e')
      have B2 := only_below hO2 B1 (by omega) hb1.2.1 hb1.2.2 (Or.inr rfl)
      go_wp2_with fail
      go_roundw
      case rel => exact ⟨k + 1, by go_num, ⟨t, ⟨_, _, _, _, _, _, _, _, ha2, hb2, hIa.pop (by omega) hpa, hIb.pop (by omega) hpb, hCta, hCtb, by omega, by omega, hne, hsep⟩, by omega⟩, B2⟩
      case measure => simp [intOf]; omega
end Go.Proofs.Yteoaillidaglbaa
