/- The walk of FnStackScriptMatchesPersistentList. -/
import Derived.Test.YteoaillidaglbaaRel
set_option linter.unusedVariables false
namespace Go.Proofs.Yteoaillidaglbaa
open Go.RowKit

theorem Try.info3 : (Try.prog.info? 3).map (fun i => (i.zero, i.size, i.bytes)) = some (some (.int .i64 0), 1, 8) := by kernel_rfl
theorem IRow.own {w : World} {B g cap k : Nat} {xs : List Int} (h : IRow w B g cap xs) (hk : xs.length = k) : w.ownsRow B 3 1 (.slice (some ⟨g, 0, none⟩) k cap) k (xs.map (Value.int .i64)) := by
  subst hk; exact h
theorem IRow.snoc {w : World} {B g cap k : Nat} {xs : List Int} {x : Int} (h : w.ownsRow B 3 1 (.slice (some ⟨g, 0, none⟩) (k + 1) cap) (k + 1) (xs.map (Value.int .i64) ++ [.int .i64 x])) (hk : xs.length = k) : IRow w B g cap (xs ++ [x]) := by
  subst hk
  unfold IRow
  rw [List.length_append, List.map_append]
  exact h
theorem IRow.cut {w : World} {B g cap : Nat} {xs : List Int} {x : Int} (h : IRow w B g cap (xs ++ [x])) : IRow w B g cap xs := by
  unfold IRow at h ⊢
  rw [List.length_append, List.map_append] at h
  exact ownsRow_pop (by simp) h
theorem mod4 (c : Int) (h0 : 0 ≤ c) : c % 4 = 0 ∨ c % 4 = 1 ∨ c % 4 = 2 ∨ c % 4 = 3 := by omega
theorem one_new (w : World) (x : Int) : ∀ j u, [Value.int .i64 x][j]? = some u → (w.alloc (.cells #[.int .i64 x] 3)).cell? ((⟨w.heap.size, 0, none⟩ : Addr).add j) = some u := cell_one_new w _ _
theorem one_cell (x : Int) : ∀ u ∈ [Value.int .i64 x], u.oneCell' = true := by intro u hu; simp at hu; subst hu; rfl

theorem irow_made (w : World) (B n : Nat) (hB : B ≤ w.heap.size) (hn : n ≤ maxLen) : IRow (w.alloc (.cells (madeCells #[.int .i64 0] n) 3)) B w.heap.size n [] :=
  World.ownsRow_made w _ n hB hn (by rw [size_madeCells]; omega)
theorem start4 (w w1 : World) (n : Nat) (hn : n ≤ maxLen) (s1 : Stk w1 w.heap.size w.heap.size [] (-1) (-1) (.slice none 0 0)) (b1 : Below w.heap.size w w1) :
    Rel4 w (((((w1.alloc (.cells (madeCells #[.int .i64 0] n) 3)).alloc (.cells (madeCells #[.int .i64 0] n) 3)).alloc (.cells (madeCells #[.int .i64 0] n) 3)).alloc (.cells (madeCells #[.int .i64 0] n) 3)).alloc (.cells (madeCells #[.int .i64 0] n) 3)) w.heap.size w.heap.size n w1.heap.size (w1.heap.size + 1) (w1.heap.size + 1 + 1) (w1.heap.size + 1 + 1 + 1) (w1.heap.size + 1 + 1 + 1 + 1) 0 [] [] (-1) := by
  have L := b1.size
  have z : ∀ (W : World), (W.alloc (.cells (madeCells #[.int .i64 0] n) 3)).heap.size = W.heap.size + 1 := fun W => by simp
  refine ⟨⟨[], -1, -1, _, [], ((((s1.alloc _).alloc _).alloc _).alloc _).alloc _, Inv.empty, .nil _ (by omega), .nil _ (by omega), trivial, Nat.le_refl _⟩, ⟨?_, ?_, ?_, ?_, ?_⟩, Nat.le_refl _, Nat.le_refl _, ?_⟩
  · exact ((((irow_made w1 _ n L hn).alloc _).alloc _).alloc _).alloc _
  · have := (((irow_made (w1.alloc (.cells (madeCells #[.int .i64 0] n) 3)) w.heap.size n (by rw [z]; omega) hn).alloc (.cells (madeCells #[.int .i64 0] n) 3)).alloc (.cells (madeCells #[.int .i64 0] n) 3)).alloc (.cells (madeCells #[.int .i64 0] n) 3)
    rw [z] at this; exact this
  · have := ((irow_made ((w1.alloc (.cells (madeCells #[.int .i64 0] n) 3)).alloc (.cells (madeCells #[.int .i64 0] n) 3)) w.heap.size n (by rw [z, z]; omega) hn).alloc (.cells (madeCells #[.int .i64 0] n) 3)).alloc (.cells (madeCells #[.int .i64 0] n) 3)
    rw [z, z] at this; exact this
  · have := (irow_made (((w1.alloc (.cells (madeCells #[.int .i64 0] n) 3)).alloc (.cells (madeCells #[.int .i64 0] n) 3)).alloc (.cells (madeCells #[.int .i64 0] n) 3)) w.heap.size n (by rw [z, z, z]; omega) hn).alloc (.cells (madeCells #[.int .i64 0] n) 3)
    rw [z, z, z] at this; exact this
  · have := irow_made ((((w1.alloc (.cells (madeCells #[.int .i64 0] n) 3)).alloc (.cells (madeCells #[.int .i64 0] n) 3)).alloc (.cells (madeCells #[.int .i64 0] n) 3)).alloc (.cells (madeCells #[.int .i64 0] n) 3)) w.heap.size n (by rw [z, z, z, z]; omega) hn
    rw [z, z, z, z] at this; exact this
  · exact ((((b1.alloc L _).alloc (by rw [z]; omega) _).alloc (by rw [z, z]; omega) _).alloc (by rw [z, z, z]; omega) _).alloc (by rw [z, z, z, z]; omega) _

theorem Stk.grown_a {w w' : World} {B g cap b : Nat} {xs : List Int} {ds : List (Int × Int)} {i l : Int} {v : Value} {o : Obj} (hS : Stk w B b ds i l v) (h : IRow w B g cap xs) (hg : (w.alloc o).grownBy w' (some g)) : Stk w' B b ds i l v := (hS.alloc o).grown (h.alloc o) hg
theorem IRow.grown_a {w w' : World} {B g g' cap : Nat} {xs : List Int} {o : Obj} (h : IRow w B g cap xs) (hg : (w.alloc o).grownBy w' (some g')) (hne : g ≠ g') : IRow w' B g cap xs := (h.alloc o).grown hg hne
theorem below_a {B g : Nat} {a w w' : World} {o : Obj} (hb : Below B a w) (hg : (w.alloc o).grownBy w' (some g)) (hB : B ≤ w.heap.size) (hgB : B ≤ g) : Below B a w' := grown_below (hb.alloc hB o) hg (by simp; omega) hgB
theorem size_a {g : Nat} {w w' : World} {o : Obj} (hg : (w.alloc o).grownBy w' (some g)) : w.heap.size < w'.heap.size := by have := hg.size; simp at this; omega

theorem push_end {w w3 w4 w5 : World} {b n g0 g1 g2 g3 g4 k : Nat} {ar ds : List (Int × Int)} {S : List (Int × Int × Int)} {idx lim cur r : Int} {v3 : Value} {xs : List Int} {o o' : Obj}
    (hI : Inv ds idx lim) (hC : Chain ds idx xs) (hA : Chain ar cur xs) (hV : SavedOK ds ar lim S) (hL : ds.length ≤ k) (hal : ar.length ≤ k) (hsl : S.length ≤ k)
    (hS3 : Stk w3 w.heap.size b (pushDs ds idx lim r) (max idx lim + 1) lim v3) (hb3 : Below w.heap.size w w3)
    (q0 : IRow w3 w.heap.size g0 n (ar.map (·.1))) (q1 : IRow w3 w.heap.size g1 n (ar.map (·.2))) (q2 : IRow w3 w.heap.size g2 n (nodes S)) (q3 : IRow w3 w.heap.size g3 n (idxs S)) (q4 : IRow w3 w.heap.size g4 n (lims S))
    (n01 : g0 ≠ g1) (n02 : g2 ≠ g0) (n03 : g3 ≠ g0) (n04 : g4 ≠ g0) (n12 : g2 ≠ g1) (n13 : g3 ≠ g1) (n14 : g4 ≠ g1)
    (o4 : w4.ownsRow w.heap.size 3 1 (.slice (some ⟨g0, 0, none⟩) (ar.length + 1) n) (ar.length + 1) ((ar.map (·.1)).map (Value.int .i64) ++ [.int .i64 r])) (e4 : (w3.alloc o).grownBy w4 (some g0))
    (o5 : w5.ownsRow w.heap.size 3 1 (.slice (some ⟨g1, 0, none⟩) (ar.length + 1) n) (ar.length + 1) ((ar.map (·.2)).map (Value.int .i64) ++ [.int .i64 cur])) (e5 : (w4.alloc o').grownBy w5 (some g1)) :
    Rel4 w w5 w.heap.size b n g0 g1 g2 g3 g4 (k + 1) (ar ++ [(r, cur)]) S ar.length := by
  have p0 : IRow w4 w.heap.size g0 n (ar.map (·.1) ++ [r]) := IRow.snoc o4 (by rw [List.length_map])
  have p1 : IRow w5 w.heap.size g1 n (ar.map (·.2) ++ [cur]) := IRow.snoc o5 (by rw [List.length_map])
  have x1 := q1.grown_a e4 (fun e => n01 e.symm)
  have L3 := hb3.size
  have L4 := size_a e4
  have hcur : cur < ar.length := by
    by_cases h0 : 0 ≤ cur
    · exact hA.lt h0
    · omega
  refine ⟨⟨_, _, _, v3, r :: xs, (hS3.grown_a q0 e4).grown_a x1 e5, hI.push r, hC.push r hI, ?_, hV.push hI r _ S lim (Int.le_refl _), by have := (pushDs_len r hI).2.1; omega⟩, ⟨?_, ?_, (q2.grown_a e4 n02).grown_a e5 n12, (q3.grown_a e4 n03).grown_a e5 n13, (q4.grown_a e4 n04).grown_a e5 n14⟩, by rw [List.length_append]; simp; omega, by omega, below_a (below_a hb3 e4 (by omega) q0.base) e5 (by omega) q1.base⟩
  · exact .cons ar.length r cur xs (by simp) hcur (hA.append _)
  · have := p0.grown_a e5 n01
    simpa using this
  · simpa using p1

theorem save_end {w w3 w4 w5 w6 : World} {b n g0 g1 g2 g3 g4 k : Nat} {ar ds : List (Int × Int)} {S : List (Int × Int × Int)} {idx lim cur : Int} {v3 : Value} {xs : List Int} {o o' o'' : Obj}
    (hI : Inv ds idx lim) (hC : Chain ds idx xs) (hA : Chain ar cur xs) (hV : SavedOK ds ar lim S) (hL : ds.length ≤ k) (hal : ar.length ≤ k) (hsl : S.length ≤ k)
    (hS3 : Stk w3 w.heap.size b ds idx (max lim idx) v3) (hb3 : Below w.heap.size w w3)
    (q0 : IRow w3 w.heap.size g0 n (ar.map (·.1))) (q1 : IRow w3 w.heap.size g1 n (ar.map (·.2))) (q2 : IRow w3 w.heap.size g2 n (nodes S)) (q3 : IRow w3 w.heap.size g3 n (idxs S)) (q4 : IRow w3 w.heap.size g4 n (lims S))
    (n02 : g0 ≠ g2) (n03 : g0 ≠ g3) (n04 : g0 ≠ g4) (n12 : g1 ≠ g2) (n13 : g1 ≠ g3) (n14 : g1 ≠ g4) (n23 : g2 ≠ g3) (n24 : g2 ≠ g4) (n34 : g3 ≠ g4)
    (o4 : w4.ownsRow w.heap.size 3 1 (.slice (some ⟨g2, 0, none⟩) (S.length + 1) n) (S.length + 1) ((nodes S).map (Value.int .i64) ++ [.int .i64 cur])) (e4 : (w3.alloc o).grownBy w4 (some g2))
    (o5 : w5.ownsRow w.heap.size 3 1 (.slice (some ⟨g3, 0, none⟩) (S.length + 1) n) (S.length + 1) ((idxs S).map (Value.int .i64) ++ [.int .i64 idx])) (e5 : (w4.alloc o').grownBy w5 (some g3))
    (o6 : w6.ownsRow w.heap.size 3 1 (.slice (some ⟨g4, 0, none⟩) (S.length + 1) n) (S.length + 1) ((lims S).map (Value.int .i64) ++ [.int .i64 lim])) (e6 : (w5.alloc o'').grownBy w6 (some g4)) :
    Rel4 w w6 w.heap.size b n g0 g1 g2 g3 g4 (k + 1) ar ((cur, idx, lim) :: S) cur := by
  have p2 : IRow w4 w.heap.size g2 n (nodes S ++ [cur]) := IRow.snoc o4 (nodes_len S)
  have p3 : IRow w5 w.heap.size g3 n (idxs S ++ [idx]) := IRow.snoc o5 (idxs_len S)
  have p4 : IRow w6 w.heap.size g4 n (lims S ++ [lim]) := IRow.snoc o6 (lims_len S)
  have x3 := q3.grown_a e4 (fun e => n23 e.symm)
  have x4 := (q4.grown_a e4 (fun e => n24 e.symm)).grown_a e5 (fun e => n34 e.symm)
  have L3 := hb3.size
  have L4 := size_a e4
  have L5 := size_a e5
  refine ⟨⟨ds, idx, max lim idx, v3, xs, ((hS3.grown_a q2 e4).grown_a x3 e5).grown_a x4 e6, hI.save, hC, hA, ⟨hI.i0, hI.l0, by omega, by omega, ⟨xs, hC, hA⟩, hV⟩, by omega⟩, ⟨((q0.grown_a e4 n02).grown_a e5 n03).grown_a e6 n04, ((q1.grown_a e4 n12).grown_a e5 n13).grown_a e6 n14, ?_, ?_, ?_⟩, by omega, by rw [List.length_cons]; omega, below_a (below_a (below_a hb3 e4 (by omega) q2.base) e5 (by omega) q3.base) e6 (by omega) q4.base⟩
  · rw [nodes_cons]; exact (p2.grown_a e5 n23).grown_a e6 n24
  · rw [idxs_cons]; exact p3.grown_a e6 n34
  · rw [lims_cons]; exact p4

set_option maxRecDepth 100000 in
set_option maxHeartbeats 4000000 in
theorem law4_loop (a a' : Option Addr) (n c m d : Nat) (f g : Nat → Int) (w : World) (hn : n ≤ 65536) (hm : m ≤ 65536) (hnm : n + 8 * m ≤ 1048576) (h : RowIn .u8 w a n f) (hf : ∀ i, i < n → 0 ≤ f i ∧ f i < 256) (h' : RowIn .i64 w a' m g) :
    Calls Try.prog 4 #[.slice a n c, .slice a' m d] w fun e w' => e = .returned (.bool true) ∧ Below w.heap.size w w' := by
  have HF := Lib.hid hf
  clear hf
  obtain ⟨i0, hi, hz0, hz1, hz2⟩ := info_parts Try.info3
  have hmk : ∀ W : World, (Instr.makeSlice 23 (.int .i64 0) (.int .i64 (n : Int))).run Try.prog W = .ok (.slice (some ⟨W.heap.size, 0, none⟩) 0 n) (W.alloc (.cells (madeCells #[.int .i64 0] n) 3)) := fun W => by
    have hr := run_make (P := Try.prog) W 23 3 i0 (.int .i64 0) Try.underlying23 hi hz0 .i64 .i64 0 n (Int.le_refl _) (by omega) (by rw [hz2]; omega) (by omega)
    simpa [hz1, Value.cells] using hr
  go_enter Try.func4, Try.ntmps4
  go_wp2_with fail
  refine (zzb17 a a' n c m d w (by omega)).mono ?_
  rintro e w1 ⟨rfl, rfl⟩
  go_wp2_with fail
  refine (new_any w).mono ?_
  rintro e w1 ⟨rfl, s1, b1⟩
  have L1 := s1.lt
  go_wp2_with fail
  have st : Rel4 w (((((w1.alloc (.cells (madeCells #[.int .i64 0] n) 3)).alloc (.cells (madeCells #[.int .i64 0] n) 3)).alloc (.cells (madeCells #[.int .i64 0] n) 3)).alloc (.cells (madeCells #[.int .i64 0] n) 3)).alloc (.cells (madeCells #[.int .i64 0] n) 3)) w.heap.size w.heap.size n w1.heap.size (w1.heap.size + 1) (w1.heap.size + 1 + 1) (w1.heap.size + 1 + 1 + 1) (w1.heap.size + 1 + 1 + 1 + 1) 0 [] [] (-1) := start4 w w1 n (by unfold maxLen; omega) s1 b1
  clear hmk s1 b1
  go_loopw [6, 7, 8, 9, 10, 11, 12] (fun s6 s7 s8 s9 s10 s11 s12 wr => ∃ k ar S cur, k ≤ n ∧ s6 = .slice (some ⟨w1.heap.size, 0, none⟩) (List.length ar) n ∧ s7 = .slice (some ⟨w1.heap.size + 1, 0, none⟩) (List.length ar) n ∧ s8 = .int .i64 cur ∧ s9 = .slice (some ⟨w1.heap.size + 1 + 1, 0, none⟩) (List.length S) n ∧ s10 = .slice (some ⟨w1.heap.size + 1 + 1 + 1, 0, none⟩) (List.length S) n ∧ s11 = .slice (some ⟨w1.heap.size + 1 + 1 + 1 + 1, 0, none⟩) (List.length S) n ∧ s12 = .int .i64 (k : Nat) ∧
      Rel4 w wr w.heap.size w.heap.size n w1.heap.size (w1.heap.size + 1) (w1.heap.size + 1 + 1) (w1.heap.size + 1 + 1 + 1) (w1.heap.size + 1 + 1 + 1 + 1) k ar S cur) (fun _ _ _ _ _ _ i _ => n - (intOf i).toNat)
  case atStart => exact ⟨0, [], [], -1, Nat.zero_le _, rfl, rfl, rfl, rfl, rfl, rfl, rfl, st⟩
  case round =>
    clear st
    obtain ⟨k, ar, S, cur, hk, rfl, rfl, rfl, rfl, rfl, rfl, rfl, ⟨ds, idx, lim, v, xs, hS, hI, hC, hA, hV, hL⟩, ⟨r0, r1, r2, r3, r4⟩, hal, hsl, hb⟩ := hrel
    have LB := hb.size
    by_cases hlt : k < n
    · obtain ⟨x, rfl, hx⟩ := h.at_ hlt hb
      obtain ⟨f0, f1⟩ := HF.out k hlt
      rcases mod4 (f k) f0 with hc | hc | hc | hc
      · have t0 : (f k % 4 == 0) = true := by simp [hc]
        clear hc
        go_wp2_with fail
        refine (valAt a' m d g _ _ w h' hb (by omega) (by omega) (by omega)).mono ?_
        rintro e w3 ⟨⟨r, rfl⟩, rfl⟩
        go_wp2_with fail
        refine (push_any _ _ _ _ _ _ _ r hS hI (by omega) LB).mono ?_
        rintro e w3 ⟨rfl, ⟨v3, hS3, _⟩, hO3⟩
        have hb3 := only_below hO3 hb LB hS.2.1 hS.2.2 (Or.inl rfl)
        have q0 := r0.only hS hO3 (Or.inl rfl)
        have q1 := r1.only hS hO3 (Or.inl rfl)
        have q2 := r2.only hS hO3 (Or.inl rfl)
        have q3 := r3.only hS hO3 (Or.inl rfl)
        have q4 := r4.only hS hO3 (Or.inl rfl)
        clear r0 r1 r2 r3 r4
        have L3 := hb3.size
        have B0 := q0.base
        have B1 := q1.base
        have u0 := q0.lt
        have u1 := q1.lt
        go_wp2_with (first | (at_builtin; refine wpList_append_fits _ rfl (.tmp 74) (.tmp 76) 23 rfl w.heap.size 3 i0 1 Try.underlying23 hi hz1 w1.heap.size ar.length n _ rfl ((q0.alloc _).own (by rw [List.length_map])) ⟨w3.heap.size, 0, none⟩ 1 1 [.int .i64 r] rfl rfl (one_new _ _) (one_cell _) (by omega) ?_; intro w4 o4 g4) | (at_builtin; refine wpList_append_fits _ rfl (.tmp 78) (.tmp 80) 23 rfl w.heap.size 3 i0 1 Try.underlying23 hi hz1 (w1.heap.size + 1) ar.length n _ rfl ((((q1.alloc _).grown g4 (by omega)).alloc _).own (by rw [List.length_map])) ⟨w4.heap.size, 0, none⟩ 1 1 [.int .i64 cur] rfl rfl (one_new _ _) (one_cell _) (by omega) ?_; intro w5 o5 g5))
        have R := push_end hI hC hA hV hL hal hsl hS3 hb3 q0 q1 q2 q3 q4 (by omega) (by omega) (by omega) (by omega) (by omega) (by omega) (by omega) o4 g4 o5 g5
        go_roundw
        case rel => exact ⟨k + 1, ar ++ [(r, cur)], S, ar.length, by omega, by rw [List.length_append]; rfl, by rw [List.length_append]; rfl, rfl, rfl, rfl, rfl, by go_num, R⟩
        case measure => simp [intOf]; omega
      · have t0 : (f k % 4 == 0) = false := by simp [hc]
        have t1 : (f k % 4 == 1) = true := by simp [hc]
        clear hc
        by_cases hcur : cur < 0
        · have hi' : idx < 0 := hC.neg.2 (hA.neg.1 hcur)
          go_wp2_with fail
          refine (empty_yes _ _ _ _ _ _ _ hS hi').mono ?_
          rintro e w3 ⟨rfl, rfl⟩
          go_wp2_with fail
          go_roundw
          case rel => exact ⟨k + 1, ar, S, cur, by omega, rfl, rfl, rfl, rfl, rfl, rfl, by go_num, ⟨ds, idx, lim, v, xs, hS, hI, hC, hA, hV, by omega⟩, ⟨r0, r1, r2, r3, r4⟩, by omega, by omega, hb⟩
          case measure => simp [intOf]; omega
        · have hi' : ¬ idx < 0 := fun e => hcur (hA.neg.2 (hC.neg.1 e))
          obtain ⟨y, nx, t, rfl, hp, hnx, hCt⟩ := hC.pop (by omega)
          obtain ⟨y', up, t', e', hp', hup, hAt⟩ := hA.pop (by omega)
          injection e' with e1 e2
          subst e1 e2
          obtain ⟨cc, rfl⟩ : ∃ cc : Nat, cur = (cc : Int) := ⟨cur.toNat, by omega⟩
          have hpc : ar[cc]? = some (y, up) := by simpa using hp'
          have hcl := (List.getElem?_eq_some_iff.1 hpc).1
          have HP := Lib.hid hp
          have HP' := Lib.hid hpc
          clear hp hp' hpc
          go_wp2_with fail
          refine (empty_no _ _ _ _ _ _ _ hS (by omega)).mono ?_
          rintro e w3 ⟨rfl, rfl⟩
          go_wp2_with fail
          refine (pop_any _ _ _ _ _ _ _ y nx hS (by omega) HP.out (by omega)).mono ?_
          rintro e w3 ⟨rfl, hS3, hO3⟩
          have hb3 := only_below hO3 hb LB hS.2.1 hS.2.2 (Or.inr rfl)
          have q0 := r0.only hS hO3 (Or.inr rfl)
          have q1 := r1.only hS hO3 (Or.inr rfl)
          have q2 := r2.only hS hO3 (Or.inr rfl)
          have q3 := r3.only hS hO3 (Or.inr rfl)
          have q4 := r4.only hS hO3 (Or.inr rfl)
          clear r0 r1 r2 r3 r4
          have d0 := q0.cell (k := cc) (x := y) (by rw [List.getElem?_map, HP'.out]; rfl)
          have d1 := q1.cell (k := cc) (x := up) (by rw [List.getElem?_map, HP'.out]; rfl)
          have hIt := hI.pop (by omega) HP.out
          go_wp2_with fail
          go_roundw
          case rel => exact ⟨k + 1, ar, S, up, by omega, rfl, rfl, rfl, rfl, rfl, rfl, by go_num, ⟨ds, nx, lim, v, t, hS3, hIt, hCt, hAt, hV, by omega⟩, ⟨q0, q1, q2, q3, q4⟩, by omega, by omega, hb3⟩
          case measure => simp [intOf]; omega
      · have t0 : (f k % 4 == 0) = false := by simp [hc]
        have t1 : (f k % 4 == 1) = false := by simp [hc]
        have t2 : (f k % 4 == 2) = true := by simp [hc]
        clear hc
        go_wp2_with fail
        refine (save_any _ _ _ _ _ _ _ hS).mono ?_
        rintro e w3 ⟨rfl, hS3, hO3⟩
        have hb3 := only_below hO3 hb LB hS.2.1 hS.2.2 (Or.inr rfl)
        have q0 := r0.only hS hO3 (Or.inr rfl)
        have q1 := r1.only hS hO3 (Or.inr rfl)
        have q2 := r2.only hS hO3 (Or.inr rfl)
        have q3 := r3.only hS hO3 (Or.inr rfl)
        have q4 := r4.only hS hO3 (Or.inr rfl)
        clear r0 r1 r2 r3 r4
        have L3 := hb3.size
        have B2 := q2.base
        have B3 := q3.base
        have B4 := q4.base
        have u2 := q2.lt
        have u3 := q3.lt
        have u4 := q4.lt
        go_wp2_with (first | (at_builtin; refine wpList_append_fits _ rfl (.tmp 113) (.tmp 115) 23 rfl w.heap.size 3 i0 1 Try.underlying23 hi hz1 (w1.heap.size + 1 + 1) S.length n _ rfl ((q2.alloc _).own (nodes_len S)) ⟨w3.heap.size, 0, none⟩ 1 1 [.int .i64 cur] rfl rfl (one_new _ _) (one_cell _) (by omega) ?_; intro w4 o4 g4) | (at_builtin; refine wpList_append_fits _ rfl (.tmp 117) (.tmp 119) 23 rfl w.heap.size 3 i0 1 Try.underlying23 hi hz1 (w1.heap.size + 1 + 1 + 1) S.length n _ rfl (((q3.grown_a g4 (by omega)).alloc _).own (idxs_len S)) ⟨w4.heap.size, 0, none⟩ 1 1 [.int .i64 idx] rfl rfl (one_new _ _) (one_cell _) (by omega) ?_; intro w5 o5 g5) | (at_builtin; refine wpList_append_fits _ rfl (.tmp 121) (.tmp 123) 23 rfl w.heap.size 3 i0 1 Try.underlying23 hi hz1 (w1.heap.size + 1 + 1 + 1 + 1) S.length n _ rfl ((((q4.grown_a g4 (by omega)).grown_a g5 (by omega)).alloc _).own (lims_len S)) ⟨w5.heap.size, 0, none⟩ 1 1 [.int .i64 lim] rfl rfl (one_new _ _) (one_cell _) (by omega) ?_; intro w6 o6 g6))
        have R := save_end hI hC hA hV hL hal hsl hS3 hb3 q0 q1 q2 q3 q4 (by omega) (by omega) (by omega) (by omega) (by omega) (by omega) (by omega) (by omega) (by omega) o4 g4 o5 g5 o6 g6
        go_roundw
        case rel => exact ⟨k + 1, ar, (cur, idx, lim) :: S, cur, by omega, rfl, rfl, rfl, rfl, rfl, rfl, by go_num, R⟩
        case measure => simp [intOf]; omega
      · have t0 : (f k % 4 == 0) = false := by simp [hc]
        have t1 : (f k % 4 == 1) = false := by simp [hc]
        have t2 : (f k % 4 == 2) = false := by simp [hc]
        have t3 : (f k % 4 == 3) = true := by simp [hc]
        clear hc
        match S, hV, hsl, r2, r3, r4 with
        | [], hV, hsl, r2, r3, r4 =>
          go_wp2_with fail
          go_roundw
          case rel => exact ⟨k + 1, ar, [], cur, by omega, rfl, rfl, rfl, rfl, rfl, rfl, by go_num, ⟨ds, idx, lim, v, xs, hS, hI, hC, hA, hV, by omega⟩, ⟨r0, r1, r2, r3, r4⟩, by omega, by omega, hb⟩
          case measure => simp [intOf]; omega
        | (nd, i, l) :: S', ⟨v1, v2, v3, v4, ⟨ys, v5, v6⟩, v7⟩, hsl, r2, r3, r4 =>
          rw [List.length_cons] at hsl
          rw [nodes_cons] at r2
          rw [idxs_cons] at r3
          rw [lims_cons] at r4
          have d3 := r3.cell (k := S'.length) (x := i) (snoc_at _ _ _ (idxs_len S'))
          have d4 := r4.cell (k := S'.length) (x := l) (snoc_at _ _ _ (lims_len S'))
          have hI2 : Inv ds i l := ⟨v1, by have := hI.l1; omega, v2, by have := hI.l1; omega, hI.nx⟩
          have hS1 : Stk wr.drew w.heap.size w.heap.size ds idx lim v := hS
          have hpos : (0 : Int) < (S'.length : Int) + 1 := by omega
          go_wp2_with fail
          go_region_with (go_at_call 15; refine (restore_any wr.drew _ _ _ _ _ _ i l hS1).mono ?_; rintro e w3 ⟨rfl, hS3, hO3⟩)
          all_goals
            have hb3 := only_below hO3 hb.drew LB hS.2.1 hS.2.2 (Or.inr rfl)
            have q0 := IRow.only (w := wr.drew) r0 hS1 hO3 (Or.inr rfl)
            have q1 := IRow.only (w := wr.drew) r1 hS1 hO3 (Or.inr rfl)
            have q2 := IRow.only (w := wr.drew) r2 hS1 hO3 (Or.inr rfl)
            have q3 := IRow.only (w := wr.drew) r3 hS1 hO3 (Or.inr rfl)
            have q4 := IRow.only (w := wr.drew) r4 hS1 hO3 (Or.inr rfl)
            clear r0 r1 r2 r3 r4 d3 d4
            have d2 := q2.cell (k := S'.length) (x := nd) (snoc_at _ _ _ (nodes_len S'))
            go_wp2_with fail
            go_roundw
            case rel => exact ⟨k + 1, ar, S', nd, by omega, rfl, rfl, rfl, rfl, rfl, rfl, by go_num, ⟨ds, i, l, v, ys, hS3, hI2, v5, v6, v7, by omega⟩, ⟨q0, q1, q2.cut, q3.cut, q4.cut⟩, by omega, by omega, hb3⟩
            case measure => simp [intOf]; omega
    · clear r2 r3 r4 hV
      have hxl : xs.length ≤ n := by
        rcases hA.len with hh | rfl
        · by_cases h0 : 0 ≤ cur
          · have := hA.lt h0; omega
          · omega
        · simp
      go_wp2_with fail
      go_loopw [8, 18] (fun s8 s18 wr' => ∃ (j : Nat) (cur' : Int), s8 = .int .i64 cur' ∧ s18 = .int .i64 j ∧ (∃ idx lim v xs, Stk wr' w.heap.size w.heap.size ds idx lim v ∧ Inv ds idx lim ∧ Chain ds idx xs ∧ Chain ar cur' xs ∧ xs.length + j ≤ n) ∧ IRow wr' w.heap.size w1.heap.size n (ar.map (·.1)) ∧ IRow wr' w.heap.size (w1.heap.size + 1) n (ar.map (·.2)) ∧ Below w.heap.size w wr') (fun _ i _ => n + 1 - (intOf i).toNat)
      case atStart => exact ⟨0, cur, rfl, rfl, ⟨idx, lim, v, xs, hS, hI, hC, hA, by omega⟩, r0, r1, hb⟩
      case round =>
        clear hS hI hC hA hxl r0 r1 hb LB
        obtain ⟨j, cur', rfl, rfl, ⟨idx, lim, v, xs, hS, hI, hC, hA, hxl⟩, r0, r1, hb⟩ := hrel
        have LB := hb.size
        by_cases hcur : cur' < 0
        · have hi' : idx < 0 := hC.neg.2 (hA.neg.1 hcur)
          go_wp2_with fail
          refine (empty_yes _ _ _ _ _ _ _ hS hi').mono ?_
          rintro e w3 ⟨rfl, rfl⟩
          go_wp2_with fail
          go_ret
          exact ⟨rfl, hb⟩
        · have hi' : ¬ idx < 0 := fun e => hcur (hA.neg.2 (hC.neg.1 e))
          obtain ⟨y, nx, t, rfl, hp, hnx, hCt⟩ := hC.pop (by omega)
          obtain ⟨y', up, t', e', hp', hup, hAt⟩ := hA.pop (by omega)
          injection e' with e1 e2
          subst e1 e2
          obtain ⟨cc, rfl⟩ : ∃ cc : Nat, cur' = (cc : Int) := ⟨cur'.toNat, by omega⟩
          have hpc : ar[cc]? = some (y, up) := by simpa using hp'
          have hcl := (List.getElem?_eq_some_iff.1 hpc).1
          have HP := Lib.hid hp
          have HP' := Lib.hid hpc
          clear hp hp' hpc
          rw [List.length_cons] at hxl
          go_wp2_with fail
          refine (empty_no _ _ _ _ _ _ _ hS (by omega)).mono ?_
          rintro e w3 ⟨rfl, rfl⟩
          go_wp2_with fail
          refine (pop_any _ _ _ _ _ _ _ y nx hS (by omega) HP.out (by omega)).mono ?_
          rintro e w3 ⟨rfl, hS3, hO3⟩
          have hb3 := only_below hO3 hb LB hS.2.1 hS.2.2 (Or.inr rfl)
          have q0 := r0.only hS hO3 (Or.inr rfl)
          have q1 := r1.only hS hO3 (Or.inr rfl)
          clear r0 r1
          have d0 := q0.cell (k := cc) (x := y) (by rw [List.getElem?_map, HP'.out]; rfl)
          have d1 := q1.cell (k := cc) (x := up) (by rw [List.getElem?_map, HP'.out]; rfl)
          have hIt := hI.pop (by omega) HP.out
          go_wp2_with fail
          go_roundw
          case rel => exact ⟨j + 1, up, rfl, by go_num, ⟨nx, lim, v, t, hS3, hIt, hCt, hAt, by omega⟩, q0, q1, hb3⟩
          case measure => simp [intOf]; omega

set_option maxRecDepth 100000 in
theorem law4_early (a a' : Option Addr) (n c m d : Nat) (w : World) (hn : n ≤ 9223372036854775807) (hm : m ≤ 9223372036854775807) (h : 1048576 < n + m ∨ (n + m ≤ 1048576 ∧ 65536 < n) ∨ (n + m ≤ 1048576 ∧ n ≤ 65536 ∧ 65536 < m) ∨ (n + m ≤ 1048576 ∧ n ≤ 65536 ∧ m ≤ 65536 ∧ 1048576 < n + 8 * m)) :
    Calls Try.prog 4 #[.slice a n c, .slice a' m d] w fun e w' => e = .returned (.bool true) ∧ Below w.heap.size w w' := by
  rcases h with h | ⟨h1, h2⟩ | ⟨h1, h2, h3⟩ | ⟨h1, h2, h3, h4⟩
  all_goals
    go_enter Try.func4, Try.ntmps4
    go_wp2
    all_goals
      go_ret
      exact ⟨rfl, Below.refl _ _⟩

theorem law4 (a a' : Option Addr) (n c m d : Nat) (f g : Nat → Int) (w : World) (hn : n ≤ 9223372036854775807) (hm : m ≤ 9223372036854775807) (h : RowIn .u8 w a n f) (hf : ∀ i, i < n → 0 ≤ f i ∧ f i < 256) (h' : RowIn .i64 w a' m g) :
    Calls Try.prog 4 #[.slice a n c, .slice a' m d] w fun e w' => e = .returned (.bool true) ∧ Below w.heap.size w w' := by
  by_cases h1 : 1048576 < n + m
  · exact law4_early a a' n c m d w hn hm (Or.inl h1)
  by_cases h2 : 65536 < n
  · exact law4_early a a' n c m d w hn hm (Or.inr (Or.inl ⟨by omega, h2⟩))
  by_cases h3 : 65536 < m
  · exact law4_early a a' n c m d w hn hm (Or.inr (Or.inr (Or.inl ⟨by omega, by omega, h3⟩)))
  by_cases h4 : 1048576 < n + 8 * m
  · exact law4_early a a' n c m d w hn hm (Or.inr (Or.inr (Or.inr ⟨by omega, by omega, by omega, h4⟩)))
  exact law4_loop a a' n c m d f g w (by omega) (by omega) (by omega) h hf h'
end Go.Proofs.Yteoaillidaglbaa
