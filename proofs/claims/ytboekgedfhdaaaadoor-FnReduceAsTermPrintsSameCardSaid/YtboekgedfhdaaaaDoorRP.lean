/- Pattern.writeTo and patternOf. Conditions: at most 65536 names of 2^20 bytes in all. -/
import Derived.Test.YtboekgedfhdaaaaDoorRQ
import Derived.StillTailTactics
set_option linter.unusedVariables false
namespace Go.Proofs.YtboekgedfhdaaaaDoor
open Go.Shelf Go.RowKit


theorem joinT_mono (f : Nat → ByteArray) (sep : List UInt8) {m n : Nat} (h : m ≤ n) : (joinT f sep m).length ≤ (joinT f sep n).length := by
  obtain ⟨d, rfl⟩ := Nat.exists_eq_add_of_le h
  clear h
  induction d with
  | zero => exact Nat.le_refl _
  | succ d ih =>
    have e := joinT_next f sep (m + d)
    rw [show m + (d + 1) = m + d + 1 from rfl, e]
    simp only [List.length_append]
    omega
def NameCells (w : World) (p : Nat) (s : ByteArray) : Prop := p < w.heap.size ∧ w.cell? ⟨p, 0, none⟩ = some (.string s) ∧ w.cell? ⟨p, 1, none⟩ = some (.slice none 0 0) ∧ w.cell? ⟨p, 2, none⟩ = some (.slice none 0 0)
theorem NameCells.below {w w' : World} {p : Nat} {s : ByteArray} (h : NameCells w p s) (hb : Below w.heap.size w w') : NameCells w' p s :=
  ⟨Nat.lt_of_lt_of_le h.1 hb.size, (hb.cell (p := ⟨p, 0, none⟩) h.1).trans h.2.1, (hb.cell (p := ⟨p, 1, none⟩) h.1).trans h.2.2.1, (hb.cell (p := ⟨p, 2, none⟩) h.1).trans h.2.2.2⟩
theorem NameCells.from {lo : Nat} {w wv : World} {p : Nat} {s : ByteArray} (h : NameCells w p s) (hf : FromOn lo w wv) (hl : lo ≤ p) : NameCells wv p s :=
  ⟨Nat.lt_of_lt_of_le h.1 hf.1, (hf.cell hl h.1).trans h.2.1, (hf.cell hl h.1).trans h.2.2.1, (hf.cell hl h.1).trans h.2.2.2⟩
theorem NameCells.setCell {w : World} {p : Nat} {s : ByteArray} (h : NameCells w p s) (a : Addr) (hne : a.block ≠ p) (v : Value) : NameCells (w.setCell a v) p s := by
  have e : ∀ o, (w.setCell a v).cell? ⟨p, o, none⟩ = w.cell? ⟨p, o, none⟩ := fun o => set_other _ _ _ _ (fun e => hne (by rw [e]))
  refine ⟨?_, ?_, ?_, ?_⟩
  · exact Nat.lt_of_lt_of_le h.1 ((Below.refl 0 w).setCell (p := a) (Nat.zero_le _) v).size
  · rw [e]; exact h.2.1
  · rw [e]; exact h.2.2.1
  · rw [e]; exact h.2.2.2
set_option maxRecDepth 100000 in
theorem pat_name (w0 : World) (a : Nat) (s : ByteArray) (ha : a < w0.heap.size) (hs : ¬ s.size = 0) (c0 : w0.cell? ⟨a, 0, none⟩ = some (.string s)) :
    Prints 39 w0 ⟨a, 0, none⟩ (fun _ => s.data.toList) := by
  intro B b l w hB hbw hbb hlen
  have d0 : w.cell? ⟨a, 0, none⟩ = some (.string s) := (hbw.cell (p := ⟨a, 0, none⟩) ha).trans c0
  have hs1 := nonempty_of hs
  have hs2 : (s.toList == []) = false := by cases h : s.toList <;> simp_all
  clear c0 hs
  go_enter Tryd.func39, Tryd.ntmps39
  go_wp2_with fail
  refine (bb_WriteString B b l s _ hbb hlen).mono ?_
  rintro e w1 ⟨rfl, h1, b1⟩
  go_wp2_with fail
  go_end0
  exact ⟨rfl, h1, b1⟩
set_option maxRecDepth 100000 in
theorem pat_none (w0 : World) (a : Nat) (s : ByteArray) (ha : a < w0.heap.size) (hs : s.size = 0) (c0 : w0.cell? ⟨a, 0, none⟩ = some (.string s)) (c1 : w0.cell? ⟨a, 1, none⟩ = some (.slice none 0 0)) (c2 : w0.cell? ⟨a, 2, none⟩ = some (.slice none 0 0)) :
    Prints 39 w0 ⟨a, 0, none⟩ (fun _ => []) := by
  intro B b l w hB hbw hbb hlen
  have d0 : w.cell? ⟨a, 0, none⟩ = some (.string s) := (hbw.cell (p := ⟨a, 0, none⟩) ha).trans c0
  have d1 : w.cell? ⟨a, 1, none⟩ = some (.slice none 0 0) := (hbw.cell (p := ⟨a, 1, none⟩) ha).trans c1
  have d2 : w.cell? ⟨a, 2, none⟩ = some (.slice none 0 0) := (hbw.cell (p := ⟨a, 2, none⟩) ha).trans c2
  have hs1 := empty_of hs
  have hs2 := eqnil_of hs
  clear c0 c1 c2 hs
  go_enter Tryd.func39, Tryd.ntmps39
  go_wp2_with fail
  go_end0
  exact ⟨rfl, by first | exact hbb | (rw [List.append_nil]; exact hbb), Below.refl _ _⟩
theorem pat_leaf (w0 : World) (a : Nat) (s : ByteArray) (h : NameCells w0 a s) : Prints 39 w0 ⟨a, 0, none⟩ (fun _ => s.data.toList) := by
  by_cases hs : s.size = 0
  · have e : s.data.toList = [] := by rw [← ByteArray.toList_eq]; exact eqnil_of hs
    rw [e]; exact pat_none w0 a s h.1 hs h.2.1 h.2.2.1 h.2.2.2
  · exact pat_name w0 a s h.1 hs h.2.1
/-- The elements of an array pattern. -/
def Elems (w : World) (g n : Nat) (p : Nat → Nat) (f : Nat → ByteArray) : Prop := g < w.heap.size ∧ ∀ j, j < n → w.cell? ⟨g, j, none⟩ = some (.pointer (some ⟨p j, 0, none⟩)) ∧ NameCells w (p j) (f j)
set_option maxRecDepth 100000 in
set_option maxHeartbeats 1000000 in
theorem pat_array (w0 : World) (a g n c : Nat) (s : ByteArray) (p : Nat → Nat) (f : Nat → ByteArray) (ha : a < w0.heap.size) (hs : s.size = 0) (h0 : 0 < n) (hn : n ≤ 65536) (c0 : w0.cell? ⟨a, 0, none⟩ = some (.string s)) (c1 : w0.cell? ⟨a, 1, none⟩ = some (.slice (some ⟨g, 0, none⟩) n c)) (hE : Elems w0 g n p f) (ht : tot f n ≤ 1048576) :
    Prints 39 w0 ⟨a, 0, none⟩ (fun _ => [91] ++ joinT f sComma n ++ [93]) := by
  intro B b l w hB hbw hbb hlen
  have d0 : w.cell? ⟨a, 0, none⟩ = some (.string s) := (hbw.cell (p := ⟨a, 0, none⟩) ha).trans c0
  have d1 : w.cell? ⟨a, 1, none⟩ = some (.slice (some ⟨g, 0, none⟩) n c) := (hbw.cell (p := ⟨a, 1, none⟩) ha).trans c1
  have hs1 := empty_of hs
  have hs2 := eqnil_of hs
  have ha' : a < B := Nat.lt_of_lt_of_le ha hB
  have HE := Lib.hid hE
  have HL := Lib.hid (show l.length + 1 ≤ 1099511627776 - 4194304 ∨ True from Or.inr trivial)
  have HLEN := Lib.hid hlen
  clear c0 c1 hs hE hlen HL
  go_enter Tryd.func39, Tryd.ntmps39
  go_wp2_with fail
  refine (bb_WriteByte B b l 91 91 _ hbb rfl (by have := HLEN.out; simp only [List.length_append, List.length_cons, List.length_nil] at this; omega)).mono ?_
  rintro e w1 ⟨rfl, h1, b1⟩
  have e1 : w1.cell? ⟨a, 1, none⟩ = some (.slice (some ⟨g, 0, none⟩) n c) := (b1.cell (p := ⟨a, 1, none⟩) ha').trans d1
  clear d0 d1 hbb
  go_wp2_with fail
  clear e1
  go_loopw [32] (fun i wr => ∃ k : Nat, k ≤ n ∧ i = .int .i64 k ∧ BB B b (l ++ [91] ++ joinT f sComma k) wr ∧ Below B w wr) (fun i _ => n - (intOf i).toNat)
  case atStart => exact ⟨0, Nat.zero_le _, rfl, by simpa [joinT] using h1, b1⟩
  case round =>
    clear h1 b1
    obtain ⟨k, hk, rfl, hB1, hb⟩ := hrel
    have HJ : Hid (∀ m, m ≤ n → (l ++ [91] ++ joinT f sComma m).length ≤ 1099511627776 - 1) := Lib.hid (fun m hm => by
      have h1 := HLEN.out
      have h2 := joinT_mono f sComma hm
      simp only [List.length_append, List.length_cons, List.length_nil] at h1 ⊢
      omega)
    by_cases hlt : k < n
    · obtain ⟨q0, NC⟩ := HE.out.2 k hlt
      have q1 : wr.cell? ⟨g, k, none⟩ = some (.pointer (some ⟨p k, 0, none⟩)) := (hb.cell (p := ⟨g, k, none⟩) (Nat.lt_of_lt_of_le HE.out.1 hB)).trans ((hbw.cell (p := ⟨g, k, none⟩) HE.out.1).trans q0)
      have PP := pat_leaf w0 (p k) (f k) NC
      clear q0 NC
      have LK := Lib.hid (HJ.out (k + 1) hlt)
      have LE := Lib.hid (joinT_next f sComma k)
      by_cases k0 : k = 0
      · subst k0
        go_wp2_with fail
        refine (PP B b (l ++ [91] ++ joinT f sComma 0) _ hB (hbw.trans (hb.mono hB)) hB1 (by have := LK.out; rw [LE.out] at this; simp only [List.length_append, List.length_cons, List.length_nil, if_pos] at this ⊢; omega)).mono ?_
        rintro e w3 ⟨rfl, h3, b3⟩
        go_wp2_with fail
        go_roundw
        case rel => exact ⟨1, by omega, by go_num, by rw [LE.out]; simpa using h3, hb.trans b3⟩
        case measure => simp [intOf]; omega
      · have k1 : 0 < k := by omega
        have K0 := Lib.hid k0
        clear k0
        go_wp2_with fail
        refine (bb_WriteString B b (l ++ [91] ++ joinT f sComma k) ⟨sComma.toArray⟩ _ hB1 (by have := LK.out; rw [LE.out, if_neg K0.out] at this; simp only [List.length_append, List.length_cons, List.length_nil] at this ⊢; omega)).mono ?_
        rintro e w2 ⟨rfl, h2, b2⟩
        have q2 : w2.cell? ⟨g, k, none⟩ = some (.pointer (some ⟨p k, 0, none⟩)) := (b2.cell (p := ⟨g, k, none⟩) (Nat.lt_of_lt_of_le HE.out.1 hB)).trans q1
        clear q1
        go_wp2_with fail
        refine (PP B b (l ++ [91] ++ joinT f sComma k ++ sComma) _ hB (hbw.trans ((hb.trans b2).mono hB)) h2 (by have := LK.out; rw [LE.out, if_neg K0.out] at this; simp only [List.length_append, List.length_cons, List.length_nil] at this ⊢; omega)).mono ?_
        rintro e w3 ⟨rfl, h3, b3⟩
        go_wp2_with fail
        go_roundw
        case rel => exact ⟨k + 1, by omega, by go_num, by rw [LE.out, if_neg K0.out]; simpa only [List.append_assoc] using h3, (hb.trans b2).trans b3⟩
        case measure => simp [intOf]; omega
    · obtain rfl : n = k := by omega
      go_wp2_with fail
      refine (bb_WriteByte B b (l ++ [91] ++ joinT f sComma n) 93 93 _ hB1 rfl (by have := HJ.out n (Nat.le_refl _); omega)).mono ?_
      rintro e w3 ⟨rfl, h3, b3⟩
      go_wp2_with fail
      go_end0
      exact ⟨rfl, by simpa only [List.append_assoc, List.cons_append, List.nil_append] using h3, hb.trans b3⟩

/-- The pattern that patternOf has made reads so. -/
def PatCells (w : World) (a n : Nat) (s : ByteArray) (f : Nat → ByteArray) : Prop := a < w.heap.size ∧ w.cell? ⟨a, 0, none⟩ = some (.string s) ∧ w.cell? ⟨a, 2, none⟩ = some (.slice none 0 0) ∧
  ((n = 0 ∧ w.cell? ⟨a, 1, none⟩ = some (.slice none 0 0)) ∨ (0 < n ∧ ∃ (g c : Nat) (p : Nat → Nat), w.cell? ⟨a, 1, none⟩ = some (.slice (some ⟨g, 0, none⟩) n c) ∧ Elems w g n p f ∧ a ≤ g ∧ ∀ j, j < n → a ≤ p j))
theorem pat_prints (w0 : World) (a n : Nat) (s : ByteArray) (f : Nat → ByteArray) (hn : n ≤ 65536) (ht : tot f n ≤ 1048576) (h : PatCells w0 a n s f) : Prints 39 w0 ⟨a, 0, none⟩ (fun _ => patT s f n) := by
  obtain ⟨ha, c0, c2, hc⟩ := h
  by_cases hs : s.size = 0
  · rcases hc with ⟨rfl, c1⟩ | ⟨h0, g, c, p, c1, hE, _, _⟩
    · have e : patT s f 0 = [] := by rw [patT, if_pos hs, if_pos rfl]
      rw [e]; exact pat_none w0 a s ha hs c0 c1 c2
    · have e : patT s f n = [91] ++ joinT f sComma n ++ [93] := by rw [patT, if_pos hs, if_neg (by omega)]
      rw [e]; exact pat_array w0 a g n c s p f ha hs h0 hn c0 c1 hE ht
  · have e : patT s f n = s.data.toList := by rw [patT, if_neg hs]
    rw [e]; exact pat_name w0 a s ha hs c0
theorem PatCells.from {lo : Nat} {w wv : World} {a n : Nat} {s : ByteArray} {f : Nat → ByteArray} (h : PatCells w a n s f) (hf : FromOn lo w wv) (hl : lo ≤ a) : PatCells wv a n s f := by
  obtain ⟨ha, c0, c2, hc⟩ := h
  refine ⟨Nat.lt_of_lt_of_le ha hf.1, (hf.cell hl ha).trans c0, (hf.cell hl ha).trans c2, ?_⟩
  rcases hc with ⟨rfl, c1⟩ | ⟨h0, g, c, p, c1, hE, hg, hp⟩
  · exact Or.inl ⟨rfl, (hf.cell hl ha).trans c1⟩
  · refine Or.inr ⟨h0, g, c, p, (hf.cell hl ha).trans c1, ⟨Nat.lt_of_lt_of_le hE.1 hf.1, fun j hj => ?_⟩, hg, hp⟩
    exact ⟨(hf.cell (Nat.le_trans hl hg) hE.1).trans (hE.2 j hj).1, (hE.2 j hj).2.from hf (Nat.le_trans hl (hp j hj))⟩
theorem Tryd.infoPat : (Tryd.prog.info? 69).map (fun i => (i.zero, i.size, i.bytes)) = some (some (.pointer none), 1, 8) := by kernel_rfl
set_option maxRecDepth 100000 in
theorem patOf_none (s : ByteArray) (a : Option Addr) (c : Nat) (f : Nat → ByteArray) (w : World) :
    Calls Tryd.prog 32 #[.string s, .slice a 0 c] w (MkF 39 (fun _ => patT s f 0) w) := by
  go_enter Tryd.func32, Tryd.ntmps32
  go_wp2
  go_ret
  refine ⟨w.heap.size, rfl, ?_, below_fresh w _⟩
  have PC : PatCells (w.alloc (.cells #[.string s, .slice none 0 0, .slice none 0 0] 91)) w.heap.size 0 s f :=
    ⟨by simp, by simp [go_sem], by simp [go_sem], Or.inl ⟨rfl, by simp [go_sem]⟩⟩
  intro wv hf
  exact pat_prints _ _ _ _ _ (by decide) (by simp [tot]) (PC.from hf (Nat.le_refl _))
/-- The loop's word: the first k elements stand. -/
def Made (w : World) (lo g k n : Nat) (p : Nat → Nat) (f : Nat → ByteArray) : Prop :=
  w.rowIs g 69 n (fun j => if j < k then .pointer (some ⟨p j, 0, none⟩) else .pointer none) ∧ ∀ j, j < k → g < p j ∧ NameCells w (p j) (f j)
theorem setCell_size (w : World) (a : Addr) (v : Value) : (w.setCell a v).heap.size = w.heap.size := by simp [World.setCell]
theorem Made.step {w : World} {lo g k n : Nat} {p : Nat → Nat} {f : Nat → ByteArray} (h : Made w lo g k n p f) (hk : k < n) :
    Made ((w.setCell ⟨g, k, none⟩ (.pointer (some ⟨w.heap.size, 0, none⟩))).alloc (.cells #[.string (f k), .slice none 0 0, .slice none 0 0] 91)) lo g (k + 1) n (fun j => if j = k then w.heap.size else p j) f := by
  obtain ⟨hr, he⟩ := h
  have hg := hr.lt
  have hz := setCell_size w ⟨g, k, none⟩ (.pointer (some ⟨w.heap.size, 0, none⟩))
  have ba := below_fresh (w.setCell ⟨g, k, none⟩ (.pointer (some ⟨w.heap.size, 0, none⟩))) (.cells #[.string (f k), .slice none 0 0, .slice none 0 0] 91)
  have hN : NameCells ((w.setCell ⟨g, k, none⟩ (.pointer (some ⟨w.heap.size, 0, none⟩))).alloc (.cells #[.string (f k), .slice none 0 0, .slice none 0 0] 91)) (w.setCell ⟨g, k, none⟩ (.pointer (some ⟨w.heap.size, 0, none⟩))).heap.size (f k) :=
    ⟨by simp, by simp [go_sem], by simp [go_sem], by simp [go_sem]⟩
  rw [hz] at hN
  refine ⟨((hr.set k _).of_block (ba.block _ (by rw [hz]; exact hg))).congr (fun j hj => ?_), fun j hj => ?_⟩
  · by_cases e : j = k
    · subst e; simp
    · rw [if_neg e, upto e]; simp [e]
  · by_cases e : j = k
    · subst e
      simp only [if_pos]
      exact ⟨hg, hN⟩
    · simp only [if_neg e]
      obtain ⟨h1, h2⟩ := he j (by omega)
      exact ⟨h1, (h2.setCell _ (by simp; omega) _).below ba⟩
set_option maxRecDepth 100000 in
set_option maxHeartbeats 1000000 in
theorem patOf_some (s : ByteArray) (a : Option Addr) (n c : Nat) (f : Nat → ByteArray) (w : World) (h0 : 0 < n) (hn : n ≤ 65536) (ht : tot f n ≤ 1048576) (h : StrIn w a n c f) :
    Calls Tryd.prog 32 #[.string s, .slice a n c] w (MkF 39 (fun _ => patT s f n) w) := by
  rcases h with ⟨_, hz, _⟩ | ⟨x, rfl, hx⟩
  · omega
  have HX := Lib.hid hx
  clear hx
  have hmk := run_make_row' (P := Tryd.prog) 57 69 (.pointer none) 8 Tryd.underlying57 Tryd.infoPat rfl .i64 .i64 n (by omega) (by omega)
  go_enter Tryd.func32, Tryd.ntmps32
  go_wp2_with fail
  clear hmk
  go_loopw [7] (fun i wr => ∃ (k : Nat) (p : Nat → Nat), k ≤ n ∧ i = .int .i64 k ∧ Made wr w.heap.size (w.heap.size + 1) k n p f ∧ Below (w.heap.size + 1) (w.alloc (.cells #[.string s, .slice none 0 0, .slice none 0 0] 91)) wr) (fun i _ => n - (intOf i).toNat)
  case atStart =>
    refine ⟨0, fun _ => 0, Nat.zero_le _, rfl, ⟨?_, fun j hj => by omega⟩, ?_⟩
    · have hm := World.rowIs_made (w.alloc (.cells #[.string s, .slice none 0 0, .slice none 0 0] 91)) (.pointer none) n 69
      simpa using hm
    · have := below_fresh (w.alloc (.cells #[.string s, .slice none 0 0, .slice none 0 0] 91)) (.cells (madeCells #[.pointer none] n) 69)
      simpa using this
  case round =>
    obtain ⟨k, p, hk, rfl, hM, hb⟩ := hrel
    by_cases hlt : k < n
    · have hc : wr.cell? (x.add k) = some (.string (f k)) := by
        have hxl := block_lt_of_cell (HX.out k hlt)
        rw [hb.cell (by omega)]
        exact ((below_fresh w _).cell hxl).trans (HX.out k hlt)
      have hd := hM.1.cell hlt
      have hf := hM.1.frozen k
      rw [if_neg (by omega)] at hd
      have hgl := hM.1.lt
      have ba := below_fresh wr (.cells #[.string (f k), .slice none 0 0, .slice none 0 0] 91)
      have hd2 : (wr.alloc (.cells #[.string (f k), .slice none 0 0, .slice none 0 0] 91)).cell? ⟨w.heap.size + 1, k, none⟩ = some (.pointer none) := (ba.cell (p := ⟨w.heap.size + 1, k, none⟩) hgl).trans hd
      have hf2 : (wr.alloc (.cells #[.string (f k), .slice none 0 0, .slice none 0 0] 91)).frozen? ⟨w.heap.size + 1, k, none⟩ = false := (ba.frozen (p := ⟨w.heap.size + 1, k, none⟩) hgl).trans hf
      clear ba
      have HM := Lib.hid (hM.step hlt)
      have HB := Lib.hid hb
      clear hM hb
      go_wp2_with fail
      go_roundw
      case rel =>
        have hz := HB.out.size
        refine ⟨k + 1, _, by omega, by go_num, HM.out, ?_⟩
        exact (HB.out.setCell (p := ⟨w.heap.size + 1, k, none⟩) (Nat.le_refl _) _).alloc (by rw [setCell_size]; simpa using hz) _
      case measure => simp [intOf]; omega
    · obtain rfl : n = k := by omega
      have z1 : w.heap.size + 1 ≤ wr.heap.size := by simpa using hb.size
      have d0 : wr.cell? ⟨w.heap.size, 0, none⟩ = some (.string s) := (hb.cell (p := ⟨w.heap.size, 0, none⟩) (by simp)).trans (by simp [go_sem])
      have d1 : wr.cell? ⟨w.heap.size, 1, none⟩ = some (.slice none 0 0) := (hb.cell (p := ⟨w.heap.size, 1, none⟩) (by simp)).trans (by simp [go_sem])
      have d2 : wr.cell? ⟨w.heap.size, 2, none⟩ = some (.slice none 0 0) := (hb.cell (p := ⟨w.heap.size, 2, none⟩) (by simp)).trans (by simp [go_sem])
      have f1 : wr.frozen? ⟨w.heap.size, 1, none⟩ = false := (hb.frozen (p := ⟨w.heap.size, 1, none⟩) (by simp)).trans (by simp [go_sem])
      have HM := Lib.hid hM
      have HB := Lib.hid hb
      clear hM hb
      go_wp2_with fail
      go_ret
      have hbw : Below w.heap.size w wr := (below_fresh w _).trans (HB.out.mono (by omega))
      have hgl := HM.out.1.lt
      refine ⟨w.heap.size, rfl, ?_, hbw.setCell (p := ⟨w.heap.size, 1, none⟩) (Nat.le_refl _) _⟩
      have PC : PatCells (wr.setCell ⟨w.heap.size, 1, none⟩ (.slice (some ⟨w.heap.size + 1, 0, none⟩) n n)) w.heap.size n s f := by
        have zs := ((Below.refl 0 wr).setCell (p := ⟨w.heap.size, 1, none⟩) (Nat.zero_le _) (.slice (some ⟨w.heap.size + 1, 0, none⟩) n n)).size
        refine ⟨by omega, ?_, ?_, Or.inr ⟨h0, w.heap.size + 1, n, p, ?_, ⟨by omega, fun j hj => ⟨?_, ?_⟩⟩, by omega, fun j hj => ?_⟩⟩
        · rw [set_other _ _ _ _ (by simp)]; exact d0
        · rw [set_other _ _ _ _ (by simp)]; exact d2
        · exact set_same _ _ _ _ d1
        · rw [set_other _ _ _ _ (by simp)]
          have := HM.out.1.cell hj
          rw [if_pos hj] at this
          exact this
        · have := HM.out.2 j hj
          exact this.2.setCell _ (by simp; omega) _
        · have := (HM.out.2 j hj).1
          omega
      intro wv hf
      exact pat_prints _ _ _ _ _ hn ht (PC.from hf (Nat.le_refl _))
theorem patOf_any (s : ByteArray) (a : Option Addr) (n c : Nat) (f : Nat → ByteArray) (w : World) (hn : n ≤ 65536) (ht : tot f n ≤ 1048576) (h : StrIn w a n c f) :
    Calls Tryd.prog 32 #[.string s, .slice a n c] w (MkF 39 (fun _ => patT s f n) w) := by
  by_cases h0 : n = 0
  · subst h0; exact patOf_none s a c f w
  · exact patOf_some s a n c f w (by omega) hn ht h
end Go.Proofs.YtboekgedfhdaaaaDoor
