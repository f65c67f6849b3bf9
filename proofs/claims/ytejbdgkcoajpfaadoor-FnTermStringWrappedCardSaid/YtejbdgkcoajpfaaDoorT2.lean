/- Bytes of the call's own, the row perhaps marked behind its last cell ('[]byte(s)'): append onto it. Condition: lengths below 2^40. -/
import Derived.Test.YtejbdgkcoajpfaaDoorT1
import Derived.Laws.IdiomStrings
import Derived.ArgAppend
import Derived.Lib.FrozenHead2
import Derived.OwnWalk
import Derived.Deep.Heap
import Derived.Maps.AppendAt
set_option linter.unusedVariables false
namespace Go.Proofs.YtejbdgkcoajpfaaDoor
open Go.Shelf Go.RowKit

theorem Tryd.infoB : (Tryd.prog.info? 5).map (fun i => (i.zero, i.size, i.bytes)) = some (some (.int .u8 0), 1, 1) := by kernel_rfl
theorem info_partsB {P : Program} {t : TypeId} {z : Value} {a b : Nat} (h : (P.info? t).map (fun i => (i.zero, i.size, i.bytes)) = some (some z, a, b)) :
    ∃ i, P.info? t = some i ∧ i.zero = some z ∧ i.size = a ∧ i.bytes = b := by
  cases e : P.info? t with
  | none => rw [e] at h; cases h
  | some i => rw [e] at h; simp at h; exact ⟨i, rfl, h.1, h.2.1, h.2.2⟩
/-- A row of bytes from block B on: its cells up to its capacity can be written. -/
def MR (w : World) (B : Nat) (v : Value) (n : Nat) (xs : List Value) : Prop :=
  xs.length = n ∧ ∃ g cap, v = .slice (some ⟨g, 0, none⟩) n cap ∧ B ≤ g ∧ (g < w.heap.size ∧ (w.shape? g).map Prod.fst = some 5) ∧ n ≤ cap ∧ cap ≤ maxLen ∧ (∀ j u, xs[j]? = some u → w.cell? ⟨g, j, none⟩ = some u) ∧ ∀ j, j < cap → (w.cell? ⟨g, j, none⟩).isSome = true ∧ w.frozen? ⟨g, j, none⟩ = false
theorem MR.kept {w w' : World} {B : Nat} {v : Value} {n : Nat} {xs : List Value} {row : Option Nat} (h : MR w B v n xs) (hg : w.grownBy w' row) (hne : v.ownBlock ≠ row) : MR w' B v n xs := by
  obtain ⟨h1, g, cap, rfl, h2, h3, h4, h5, h6, h7⟩ := h
  have e : w'.heap[g]? = w.heap[g]? := hg.block g h3.1 (by simpa [Value.ownBlock] using hne)
  have ec : ∀ j, w'.cell? ⟨g, j, none⟩ = w.cell? ⟨g, j, none⟩ := fun j => by simp [World.cell?, e]
  have ef : ∀ j, w'.frozen? ⟨g, j, none⟩ = w.frozen? ⟨g, j, none⟩ := fun j => by simp [World.frozen?, e]
  exact ⟨h1, g, cap, rfl, h2, ⟨Nat.lt_of_lt_of_le h3.1 hg.size, by simp only [World.shape?, e]; exact h3.2⟩, h4, h5, fun j u hu => (ec j).trans (h6 j u hu), fun j hj => by rw [ec, ef]; exact h7 j hj⟩
theorem MR.lt {w : World} {B : Nat} {v : Value} {n : Nat} {xs : List Value} (h : MR w B v n xs) : ∀ k, v.ownBlock = some k → B ≤ k ∧ k < w.heap.size := by
  obtain ⟨h1, g, cap, rfl, h2, h3, _⟩ := h
  intro k hk
  simp [Value.ownBlock] at hk
  subst hk
  exact ⟨h2, h3.1⟩
theorem MR.alloc {w : World} {B : Nat} {v : Value} {n : Nat} {xs : List Value} (h : MR w B v n xs) (o : Obj) : MR (w.alloc o) B v n xs := by
  obtain ⟨h1, g, cap, rfl, r⟩ := h
  exact MR.kept ⟨h1, g, cap, rfl, r⟩ (World.grownBy_alloc w o none) (by simp [Value.ownBlock])
theorem MR.of_row {w : World} {B g cap n : Nat} {cur : Array Value} {xs : List Value} (hxs : xs.length = n) (hb : B ≤ g) (hg : w.heap[g]? = some (.cells cur 5 (0, 0))) (h1 : n ≤ cap) (h2 : cap ≤ maxLen) (h3 : cur.size = cap) (h4 : cur.toList.take n = xs) : MR w B (.slice (some ⟨g, 0, none⟩) n cap) n xs := by
  refine ⟨hxs, g, cap, rfl, hb, ⟨(Array.getElem?_eq_some_iff.1 hg).1, by simp [World.shape?, hg]⟩, h1, h2, fun j u hu => ?_, fun j hj => ⟨?_, Lib.frozen_of_heap hg j⟩⟩
  · rw [Lib.cell_of_heap hg, ← Array.getElem?_toList]
    rw [← h4] at hu
    rw [List.getElem?_take] at hu
    split at hu
    · exact hu
    · cases hu
  · rw [Lib.cell_of_heap hg]; simp [h3, hj]
theorem frozen_far {w : World} {b : Nat} {cs : Array Value} {T : TypeId} {lo hi : Nat} (hb : w.heap[b]? = some (.cells cs T (lo, hi))) {j : Nat} (h : j < lo) : w.frozen? ⟨b, j, none⟩ = false := by
  simp [World.frozen?, hb]; omega
theorem MR.of_bytes (w : World) (B : Nat) (s : ByteArray) (cap : Nat) (hB : B ≤ w.heap.size) (h1 : s.size ≤ cap) (h2 : cap ≤ maxLen) :
    MR (w.drew.alloc (.cells (bytesRow s cap) 5 ((bytesRow s cap).size, (bytesRow s cap).size + 1))) B (.slice (some ⟨w.heap.size, 0, none⟩) s.size cap) s.size (Lib.strCells s) := by
  have hsz : (bytesRow s cap).size = cap := by simp [bytesRow]; omega
  have hg : (w.drew.alloc (.cells (bytesRow s cap) 5 ((bytesRow s cap).size, (bytesRow s cap).size + 1))).heap[w.heap.size]? = some (.cells (bytesRow s cap) 5 ((bytesRow s cap).size, (bytesRow s cap).size + 1)) := heap_alloc_new w.drew _
  refine ⟨by simp [Lib.strCells], w.heap.size, cap, rfl, hB, ⟨(Array.getElem?_eq_some_iff.1 hg).1, by simp only [World.shape?, hg]; rfl⟩, h1, h2, fun j u hu => ?_, fun j hj => ⟨?_, ?_⟩⟩
  · rw [Lib.cell_of_heap hg]
    have hj : j < s.size := by
      have := (List.getElem?_eq_some_iff.1 hu).1
      simpa [Lib.strCells] using this
    rw [← hu]
    simp only [bytesRow, Lib.strCells]
    rw [Array.getElem?_append_left (by simpa using hj)]
    simp
  · rw [Lib.cell_of_heap hg]; simp [hsz, hj]
  · rw [hsz] at hg ⊢
    exact frozen_far hg (by omega)

theorem setCells_heap (g : Nat) : ∀ (vs : List Value) (o : Nat) (w : World) (k : Nat), k ≠ g → (w.setCells g o vs).heap[k]? = w.heap[k]?
  | [], _, _, _, _ => rfl
  | v :: r, o, w, k, h => by
    rw [World.setCells, setCells_heap g r (o + 1) _ k h]
    exact Go.Deep.blk_setCell_other _ _ _ _ h
theorem setCell_shape (w : World) (a : Addr) (v : Value) (b : Nat) : (w.setCell a v).shape? b = w.shape? b := by
  simp only [World.shape?, World.setCell, Array.getElem?_modify]
  by_cases e : a.block = b
  · subst e
    rw [if_pos rfl]
    cases h : w.heap[a.block]? with
    | none => rfl
    | some o =>
      cases o <;> simp only [Option.map_some]
      split <;> simp
  · rw [if_neg e]
theorem setCells_shape (g b : Nat) : ∀ (vs : List Value) (o : Nat) (w : World), (w.setCells g o vs).shape? b = w.shape? b
  | [], _, _ => rfl
  | v :: r, o, w => by rw [World.setCells, setCells_shape g b r (o + 1) _, setCell_shape]
theorem setCells_grown (g : Nat) : ∀ (vs : List Value) (o : Nat) (w : World), w.grownBy (w.setCells g o vs) (some g)
  | [], _, w => ⟨rfl, rfl, rfl, Nat.le_refl _, fun _ _ _ => rfl⟩
  | v :: r, o, w => by
    rw [World.setCells]
    have h1 : w.grownBy (w.setCell ⟨g, o, none⟩ v) (some g) := ⟨by simp [World.setCell], by simp [World.setCell], by simp [World.setCell], by simp, fun k _ hk => Go.Deep.blk_setCell_other _ _ _ _ (fun e => hk (by rw [e]))⟩
    exact h1.trans (setCells_grown g r (o + 1) _)
theorem run_append_MR (w : World) (B : Nat) (v : Value) (n : Nat) (xs : List Value) (hown : MR w B v n xs) (a : Addr) (m c : Nat) (news : List Value) (hl : news.length = m) (hnews : ∀ j u, news[j]? = some u → w.cell? (a.add j) = some u) (h1 : ∀ u ∈ news, u.oneCell' = true)
    (hn : n + m ≤ 1099511627776) (hbase : B ≤ w.heap.size) (ty : TypeId) :
    ∃ v' w', (Builtin.append_ #[72, 72] ty #[v, .slice (some a) m c]).run Tryd.prog w = .ok v' w' ∧ MR w' B v' (n + m) (xs ++ news) ∧ w.grownBy w' v.ownBlock := by
  obtain ⟨i, hi, hz0, hz1, hz2⟩ := info_partsB Tryd.infoB
  obtain ⟨hx, g, cap, rfl, hb, ⟨hg, hsh⟩, hnc, hcm, hc, hf⟩ := hown
  by_cases hroom : n + m ≤ cap
  · have hr := run_append_room_cells (P := Tryd.prog) w 72 ty 5 i Tryd.underlying72 hi g 0 n cap a m c news (by rw [hz1]; omega) hnews h1 hroom (fun j hj => by rw [hz1]; exact (hf _ (by omega)).1) (fun j hj => by rw [hz1]; exact (hf _ (by omega)).2)
    rw [hz1] at hr
    have hgr := setCells_grown g news (0 + n * 1) w
    refine ⟨_, _, hr, ⟨by simp [hx, hl], g, cap, rfl, hb, ⟨Nat.lt_of_lt_of_le hg hgr.size, by rw [setCells_shape]; exact hsh⟩, hroom, hcm, fun j u hu => ?_, fun j hj => ?_⟩, hgr⟩
    · by_cases hj : j < n
      · rw [List.getElem?_append_left (by omega)] at hu
        rw [World.cell?_setCells_out g news (0 + n * 1) w ⟨g, j, none⟩ (fun _ _ => by simp; omega)]
        exact hc j u hu
      · rw [List.getElem?_append_right (by omega)] at hu
        have hj2 : j - xs.length < news.length := (List.getElem?_eq_some_iff.1 hu).1
        have := World.cell?_setCells_in g news (0 + n * 1) w (fun k hk => (hf _ (by omega)).1) (j - xs.length) hj2
        rw [show 0 + n * 1 + (j - xs.length) = j by omega] at this
        rw [this, ← (List.getElem?_eq_some_iff.1 hu).2]
    · refine ⟨?_, by rw [World.frozen?_setCells]; exact (hf j hj).2⟩
      by_cases hj1 : n ≤ j ∧ j < n + m
      · have := World.cell?_setCells_in g news (0 + n * 1) w (fun k hk => (hf _ (by omega)).1) (j - n) (by omega)
        rw [show 0 + n * 1 + (j - n) = j by omega] at this
        rw [this]; rfl
      · rw [World.cell?_setCells_out g news (0 + n * 1) w ⟨g, j, none⟩ (fun _ _ => by simp; omega)]
        exact (hf j hj).1
  · have holds : ∀ j u, xs[j]? = some u → w.cell? ((⟨g, 0, none⟩ : Addr).add j) = some u := fun j u hu => by rw [Go.WideShapes.add_plain, Nat.zero_add]; exact hc j u hu
    have hm : n + m ≤ maxLen := by unfold maxLen; omega
    have hr := run_append_grow (P := Tryd.prog) w 72 ty 5 i (.int .u8 0) Tryd.underlying72 hi hz0 ⟨g, 0, none⟩ n cap xs (by rw [hz1]; omega) holds a m c news (by rw [hz1]; omega) hnews (by omega) (by omega) (growslice_fits (by omega) (by rw [hz2]; omega))
    have hge := grownCap_ge w (n + m) cap 5
    refine ⟨_, _, hr, MR.of_row (by simp [hx, hl]) hbase (heap_alloc_new w.drew _) hge (grownCap_le_maxLen w (n + m) cap 5 hm) ?_ ?_, ⟨rfl, rfl, rfl, by simp, fun k hk _ => (World.grownBy_alloc w.drew _ none).block k hk (by simp)⟩⟩
    · have hz : ∀ K, (Builtin.zeroCells (Value.int .u8 0).cells K).size = K := fun K => by rw [size_zeroCells]; exact Nat.mul_one _
      simp only [Array.size_append, List.size_toArray, hx, hl, hz]
      omega
    · simp only [Array.toList_append]
      rw [List.take_append_of_le_length (by simp; omega)]
      exact List.take_of_length_le (by simp; omega)
theorem wpList_append_MR {ops : Array Oper} {rest : List Oper} {o : Oper} {a : Act} {Q : Exit → Act → World → Prop} (w : World) (hgd : o.guard = none) (s x : Operand)
    (ho : o.op = .call { callee := .builtin .append, args := #[s, x], argTypes := #[72, 72] }) (B : Nat)
    (v : Value) (n : Nat) (xs : List Value) (hs : a.eval s = v) (hown : MR w B v n xs)
    (ad : Addr) (m c : Nat) (news : List Value) (hx : a.eval x = .slice (some ad) m c) (hl : news.length = m) (hnews : ∀ j u, news[j]? = some u → w.cell? (ad.add j) = some u) (h1 : ∀ u ∈ news, u.oneCell' = true)
    (hn : n + m ≤ 1099511627776) (hbase : B ≤ w.heap.size)
    (h : ∀ v' w', MR w' B v' (n + m) (xs ++ news) → w.grownBy w' v.ownBlock → wpList Tryd.prog ops Q rest (a.put o.dst v') w') : wpList Tryd.prog ops Q (o :: rest) a w := by
  refine wpList_plain hgd fun K hK => ?_
  obtain ⟨v', w', hr, h2, h3⟩ := run_append_MR w B v n xs hown ad m c news hl hnews h1 hn hbase o.type
  unfold Oper.wp execOp
  simp only [ho, resolve, invoke, builtin, Sem.run_bind, Sem.run_pure, Result.andThen_ok, List.map_toArray, List.map_cons, List.map_nil, hs, hx, hr]
  exact hK _ _ (h v' w' h2 h3)
end Go.Proofs.YtejbdgkcoajpfaaDoor
