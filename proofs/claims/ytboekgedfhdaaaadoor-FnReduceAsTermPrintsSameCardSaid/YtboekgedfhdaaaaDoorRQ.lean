/- What a call made prints in every world that holds its blocks. -/
import Derived.Test.YtboekgedfhdaaaaDoorRJ
import Derived.Lib.Strings
set_option linter.unusedVariables false
namespace Go.Proofs.YtboekgedfhdaaaaDoor
open Go.Shelf Go.RowKit


theorem set_other (w : World) (p q : Addr) (v : Value) (h : p ≠ q) : (w.setCell p v).cell? q = w.cell? q := by
  first | exact World.cell?_setCell_other _ _ _ _ h | exact World.cell?_setCell_other _ _ _ h | exact World.cell?_setCell_other h
theorem set_same (w : World) (p : Addr) (u v : Value) (h : w.cell? p = some u) : (w.setCell p v).cell? p = some v := by
  first | exact World.cell?_setCell_same _ _ _ h | exact World.cell?_setCell_same _ _ h | exact World.cell?_setCell_same h
/-- wv holds what w holds in the blocks from lo on. -/
def FromOn (lo : Nat) (w wv : World) : Prop := w.heap.size ≤ wv.heap.size ∧ ∀ i, lo ≤ i → i < w.heap.size → wv.heap[i]? = w.heap[i]?
theorem FromOn.refl (lo : Nat) (w : World) : FromOn lo w w := ⟨Nat.le_refl _, fun _ _ _ => rfl⟩
theorem FromOn.cell {lo : Nat} {w wv : World} (h : FromOn lo w wv) {i o : Nat} (h1 : lo ≤ i) (h2 : i < w.heap.size) : wv.cell? ⟨i, o, none⟩ = w.cell? ⟨i, o, none⟩ :=
  World.cell?_of_block (w := w) (h.2 i h1 h2)
theorem FromOn.below {lo : Nat} {w wv wz : World} (h : FromOn lo w wv) (hb : Below wv.heap.size wv wz) : FromOn lo w wz :=
  ⟨Nat.le_trans h.1 hb.size, fun i h1 h2 => (hb.block i (Nat.lt_of_lt_of_le h2 h.1)).trans (h.2 i h1 h2)⟩
theorem FromOn.setCell {lo : Nat} {w wv : World} (h : FromOn lo w wv) {p : Addr} (hp : p.block < lo) (v : Value) : FromOn lo w (wv.setCell p v) := by
  refine ⟨?_, fun i h1 h2 => ?_⟩
  · exact Nat.le_trans h.1 ((Below.refl 0 wv).setCell (p := p) (Nat.zero_le _) v).size
  · exact (Below.heap_setCell wv p v i (by omega)).trans (h.2 i h1 h2)
/-- From a later world to an elder one. -/
theorem FromOn.elder {lo : Nat} {w w1 wv : World} (h : FromOn lo w1 wv) (hb : Below w.heap.size w w1) : FromOn lo w wv :=
  ⟨Nat.le_trans hb.size h.1, fun i h1 h2 => (h.2 i h1 (Nat.lt_of_lt_of_le h2 hb.size)).trans (hb.block i h2)⟩
theorem FromOn.mono {lo lo' : Nat} {w wv : World} (h : FromOn lo w wv) (hl : lo ≤ lo') : FromOn lo' w wv := ⟨h.1, fun i h1 h2 => h.2 i (Nat.le_trans hl h1) h2⟩
/-- The thing at q prints f by F in every world that holds the blocks of w1 from lo on. -/
def PF (F lo : Nat) (w1 : World) (q : Nat) (f : List UInt8 → List UInt8) : Prop := ∀ wv, FromOn lo w1 wv → Prints F wv ⟨q, 0, none⟩ f
theorem PF.later {F lo q : Nat} {w1 w2 : World} {f : List UInt8 → List UInt8} (h : PF F lo w1 q f) (hb : Below w1.heap.size w1 w2) : PF F lo w2 q f := fun wv hf => h wv (hf.elder hb)
theorem PF.mono {F lo lo' q : Nat} {w1 : World} {f : List UInt8 → List UInt8} (h : PF F lo' w1 q f) (hl : lo ≤ lo') : PF F lo w1 q f := fun wv hf => h wv (hf.mono hl)
theorem PF.now {F lo q : Nat} {w1 : World} {f : List UInt8 → List UInt8} (h : PF F lo w1 q f) : Prints F w1 ⟨q, 0, none⟩ f := h w1 (FromOn.refl _ _)
/-- A query was made. -/
def MkF (F : Nat) (f : List UInt8 → List UInt8) (w : World) (e : Ending) (w' : World) : Prop :=
  ∃ q : Nat, e = .returned (.pointer (some ⟨q, 0, none⟩)) ∧ PF F w.heap.size w' q f ∧ Below w.heap.size w w'

theorem gap_blank (x : List UInt8) : gap (x ++ [32]) = [] := by simp [gap, gapB]
/-- A stage that is a field index. -/
def dotS (s : ByteArray) : Prop := ∃ h : 1 < s.size, (s[0]'(by omega)).toNat = 46
instance (s : ByteArray) : Decidable (dotS s) := by unfold dotS; infer_instance
def stageF (s : ByteArray) (l : List UInt8) : List UInt8 := if dotS s then gap l ++ s.data.toList else s.data.toList
theorem stageF_of (s : ByteArray) (l : List UInt8) (h : gap l = []) : stageF s l = s.data.toList := by unfold stageF; rw [h]; split <;> rfl
theorem ext_end (s : ByteArray) (a : Nat) : (s.extract a s.size).data.toList = s.data.toList.drop a := by
  rw [Lib.extract_data, List.take_of_length_le]
  rw [List.length_drop, ← Lib.size_eq]; exact Nat.le_refl _
theorem tail_of (s : ByteArray) (h : dotS s) : (46 : UInt8) :: (s.extract 1 s.size).data.toList = s.data.toList := by
  obtain ⟨h1, h2⟩ := h
  have e : s[0] = 46 := UInt8.toNat_inj.1 h2
  have hl : 0 < s.data.toList.length := by rw [← Lib.size_eq]; omega
  rw [ext_end]
  rw [← e]
  cases hd : s.data.toList with
  | nil => rw [hd] at hl; simp at hl
  | cons c cs =>
    have : s[0] = c := by
      show s.data[0]'_ = c
      rw [← Array.getElem_toList]
      simp [hd]
    rw [this]; rfl
theorem tail_nonempty (s : ByteArray) (h : 1 < s.size) : (s.extract 1 s.size).toList.isEmpty = false := by
  apply nonempty_of
  rw [Lib.size_eq, ext_end, List.length_drop, ← Lib.size_eq]; omega

set_option maxRecDepth 100000 in
theorem stage_short (s : ByteArray) (w : World) (hs : s.size ≤ 1048576) (h : ¬ 1 < s.size) : Calls Tryd.prog 25 #[.string s] w (MkF 37 (fun _ => s.data.toList) w) := by
  go_enter Tryd.func25, Tryd.ntmps25
  go_wp2
  go_ret
  refine ⟨w.heap.size + 2, rfl, ?_, ((below_fresh w _).alloc (by first | (simp; done) | (simp; omega)) _).alloc (by first | (simp; done) | (simp; omega)) _⟩
  intro wv hf
  have hz : w.heap.size + 3 ≤ wv.heap.size := by simpa using hf.1
  refine query_term _ (w.heap.size + 2) ⟨w.heap.size + 1, 0, none⟩ _ (by omega) ((hf.cell (by omega) (by simp; try omega)).trans (by simp [go_sem])) ((hf.cell (by omega) (by simp; try omega)).trans (by simp [go_sem])) ((hf.cell (by omega) (by simp; try omega)).trans (by simp [go_sem])) ((hf.cell (by omega) (by simp; try omega)).trans (by simp [go_sem])) ?_
  refine term_func _ (w.heap.size + 1) ⟨w.heap.size, 0, none⟩ _ (by omega) ((hf.cell (by omega) (by simp; try omega)).trans (by simp [go_sem])) ((hf.cell (by omega) (by simp; try omega)).trans (by simp [go_sem])) ((hf.cell (by omega) (by simp; try omega)).trans (by simp [go_sem])) ?_
  exact func_name _ w.heap.size s (by omega) ((hf.cell (by omega) (by simp; try omega)).trans (by simp [go_sem])) ((hf.cell (by omega) (by simp; try omega)).trans (by simp [go_sem]))

set_option maxRecDepth 100000 in
theorem stage_plain (s : ByteArray) (w : World) (hs : s.size ≤ 1048576) (h : 1 < s.size) (h2 : ¬ (s[0]'(by omega)).toNat = 46) : Calls Tryd.prog 25 #[.string s] w (MkF 37 (fun _ => s.data.toList) w) := by
  have hc : (((s[0]'(by omega)).toNat : Int) == 46) = false := by simp; omega
  clear h2
  go_enter Tryd.func25, Tryd.ntmps25
  go_wp2
  go_ret
  refine ⟨w.heap.size + 2, rfl, ?_, ((below_fresh w _).alloc (by first | (simp; done) | (simp; omega)) _).alloc (by first | (simp; done) | (simp; omega)) _⟩
  intro wv hf
  have hz : w.heap.size + 3 ≤ wv.heap.size := by simpa using hf.1
  refine query_term _ (w.heap.size + 2) ⟨w.heap.size + 1, 0, none⟩ _ (by omega) ((hf.cell (by omega) (by simp; try omega)).trans (by simp [go_sem])) ((hf.cell (by omega) (by simp; try omega)).trans (by simp [go_sem])) ((hf.cell (by omega) (by simp; try omega)).trans (by simp [go_sem])) ((hf.cell (by omega) (by simp; try omega)).trans (by simp [go_sem])) ?_
  refine term_func _ (w.heap.size + 1) ⟨w.heap.size, 0, none⟩ _ (by omega) ((hf.cell (by omega) (by simp; try omega)).trans (by simp [go_sem])) ((hf.cell (by omega) (by simp; try omega)).trans (by simp [go_sem])) ((hf.cell (by omega) (by simp; try omega)).trans (by simp [go_sem])) ?_
  exact func_name _ w.heap.size s (by omega) ((hf.cell (by omega) (by simp; try omega)).trans (by simp [go_sem])) ((hf.cell (by omega) (by simp; try omega)).trans (by simp [go_sem]))

set_option maxRecDepth 100000 in
theorem stage_dot (s : ByteArray) (w : World) (hs : s.size ≤ 1048576) (h : 1 < s.size) (h2 : (s[0]'(by omega)).toNat = 46) : Calls Tryd.prog 25 #[.string s] w (MkF 37 (fun l => gap l ++ (46 :: (s.extract 1 s.size).data.toList)) w) := by
  have hc : (((s[0]'(by omega)).toNat : Int) == 46) = true := by simp; omega
  have TN := Lib.hid (tail_nonempty s h)
  have H2 := Lib.hid h2
  clear h2
  go_enter Tryd.func25, Tryd.ntmps25
  go_wp2
  go_ret
  refine ⟨w.heap.size + 2, rfl, ?_, ((below_fresh w _).alloc (by first | (simp; done) | (simp; omega)) _).alloc (by first | (simp; done) | (simp; omega)) _⟩
  intro wv hf
  have hz : w.heap.size + 3 ≤ wv.heap.size := by simpa using hf.1
  refine query_term _ (w.heap.size + 2) ⟨w.heap.size + 1, 0, none⟩ _ (by omega) ((hf.cell (by omega) (by simp; try omega)).trans (by simp [go_sem])) ((hf.cell (by omega) (by simp; try omega)).trans (by simp [go_sem])) ((hf.cell (by omega) (by simp; try omega)).trans (by simp [go_sem])) ((hf.cell (by omega) (by simp; try omega)).trans (by simp [go_sem])) ?_
  refine term_index _ (w.heap.size + 1) ⟨w.heap.size, 0, none⟩ _ (by omega) ((hf.cell (by omega) (by simp; try omega)).trans (by simp [go_sem])) ((hf.cell (by omega) (by simp; try omega)).trans (by simp [go_sem])) ((hf.cell (by omega) (by simp; try omega)).trans (by simp [go_sem])) ?_
  exact index_name _ w.heap.size (s.extract 1 s.size) (by omega) TN.out ((hf.cell (by omega) (by simp; try omega)).trans (by simp [go_sem]))

theorem stage_any (s : ByteArray) (w : World) (hs : s.size ≤ 1048576) : Calls Tryd.prog 25 #[.string s] w (MkF 37 (stageF s) w) := by
  by_cases h : 1 < s.size
  · by_cases h2 : (s[0]'(by omega)).toNat = 46
    · have e : stageF s = fun l => gap l ++ (46 :: (s.extract 1 s.size).data.toList) := by
        funext l; rw [tail_of s ⟨h, h2⟩, stageF, if_pos ⟨h, h2⟩]
      rw [e]; exact stage_dot s w hs h h2
    · have e : stageF s = fun _ => s.data.toList := by
        funext l; rw [stageF, if_neg (fun ⟨_, x⟩ => h2 x)]
      rw [e]; exact stage_plain s w hs h h2
  · have e : stageF s = fun _ => s.data.toList := by
      funext l; rw [stageF, if_neg (fun ⟨x, _⟩ => h x)]
    rw [e]; exact stage_short s w hs h

/-- What a pipeline prints. -/
def pipeF (f : Nat → ByteArray) : Nat → List UInt8 → List UInt8
  | 0 => fun _ => []
  | 1 => stageF (f 0)
  | k + 2 => fBin 1 (pipeF f (k + 1)) (stageF (f (k + 1)))
theorem pipeF_of (f : Nat → ByteArray) : ∀ (n : Nat) (l : List UInt8), gap l = [] → pipeF f n l = joinT f sPipe n
  | 0, _, _ => rfl
  | 1, l, h => stageF_of _ _ h
  | k + 2, l, h => by
    rw [pipeF, fBin, pipeF_of f (k + 1) l h, stageF_of _ _ (gap_blank _), joinT]
    simp [opGap, opL, sPipe]
theorem pipeF_step (f : Nat → ByteArray) (k : Nat) (h : 0 < k) : pipeF f (k + 1) = fBin 1 (pipeF f k) (stageF (f k)) := by
  cases k with
  | zero => omega
  | succ k => rfl

/-- A query of no term and no sides prints nothing. -/
theorem query_empty (w0 : World) (q : Nat) (hq : q < w0.heap.size)
    (c0 : w0.cell? ⟨q, 0, none⟩ = some (.pointer none)) (c1 : w0.cell? ⟨q, 1, none⟩ = some (.slice none 0 0)) (c2 : w0.cell? ⟨q, 2, none⟩ = some (.slice none 0 0)) (c3 : w0.cell? ⟨q, 3, none⟩ = some (.pointer none)) (c5 : w0.cell? ⟨q, 5, none⟩ = some (.pointer none)) :
    Prints 37 w0 ⟨q, 0, none⟩ (fun _ => []) := by
  intro B b l w hB hbw hbb hlen
  have d0 : w.cell? ⟨q, 0, none⟩ = some (.pointer none) := (hbw.cell (p := ⟨q, 0, none⟩) hq).trans c0
  have d1 : w.cell? ⟨q, 1, none⟩ = some (.slice none 0 0) := (hbw.cell (p := ⟨q, 1, none⟩) hq).trans c1
  have d2 : w.cell? ⟨q, 2, none⟩ = some (.slice none 0 0) := (hbw.cell (p := ⟨q, 2, none⟩) hq).trans c2
  have d3 : w.cell? ⟨q, 3, none⟩ = some (.pointer none) := (hbw.cell (p := ⟨q, 3, none⟩) hq).trans c3
  have d5 : w.cell? ⟨q, 5, none⟩ = some (.pointer none) := (hbw.cell (p := ⟨q, 5, none⟩) hq).trans c5
  clear c0 c1 c2 c3 c5
  go_enter Tryd.func37, Tryd.ntmps37
  go_wp2
  refine wp_loop_rounds 1 ?_
  rw [rounds_succ]
  go_wp2
  refine wp_loop_rounds 1 ?_
  rw [rounds_succ]
  go_wp2_with fail
  go_end0
  exact ⟨rfl, by rw [List.append_nil]; exact hbb, Below.refl _ _⟩

set_option maxRecDepth 100000 in
theorem pipe_nil (a : Option Addr) (c : Nat) (f : Nat → ByteArray) (w : World) : Calls Tryd.prog 31 #[.slice a 0 c] w (MkF 37 (pipeF f 0) w) := by
  go_enter Tryd.func31, Tryd.ntmps31
  go_wp2
  go_ret
  refine ⟨w.heap.size, rfl, ?_, below_fresh w _⟩
  intro wv hf
  have hz : w.heap.size + 1 ≤ wv.heap.size := by simpa using hf.1
  exact query_empty _ w.heap.size (by omega) ((hf.cell (by omega) (by simp; try omega)).trans (by simp [go_sem])) ((hf.cell (by omega) (by simp; try omega)).trans (by simp [go_sem])) ((hf.cell (by omega) (by simp; try omega)).trans (by simp [go_sem])) ((hf.cell (by omega) (by simp; try omega)).trans (by simp [go_sem])) ((hf.cell (by omega) (by simp; try omega)).trans (by simp [go_sem]))

set_option maxRecDepth 100000 in
set_option maxHeartbeats 1000000 in
theorem pipe_some (a : Option Addr) (n c : Nat) (f : Nat → ByteArray) (w : World) (h0 : 0 < n) (hn : n ≤ 65536) (ht : tot f n ≤ 1048576) (h : StrIn w a n c f) :
    Calls Tryd.prog 31 #[.slice a n c] w (MkF 37 (pipeF f n) w) := by
  rcases h with ⟨_, hz, _⟩ | ⟨x, rfl, hx⟩
  · omega
  have HX := Lib.hid hx
  have hc0 : w.cell? x = some (.string (f 0)) := hx 0 h0
  have ht0 := tot_at f h0
  clear hx
  go_enter Tryd.func31, Tryd.ntmps31
  go_wp2_with fail
  refine (stage_any (f 0) _ (by omega)).mono ?_
  rintro e w1 ⟨q1, rfl, P1, b1⟩
  clear hc0 ht0
  go_wp2_with fail
  go_loopw [3, 4] (fun v i wr => ∃ k q : Nat, 0 < k ∧ k ≤ n ∧ i = .int .i64 k ∧ v = .pointer (some ⟨q, 0, none⟩) ∧ PF 37 w.heap.size wr q (pipeF f k) ∧ Below w.heap.size w wr) (fun _ i _ => n - (intOf i).toNat)
  case atStart => exact ⟨1, q1, by omega, by omega, rfl, rfl, P1, b1⟩
  case round =>
    clear P1 b1
    obtain ⟨k, q, k0, hk, rfl, rfl, P, hb⟩ := hrel
    by_cases hlt : k < n
    · have hc : wr.cell? (x.add k) = some (.string (f k)) := (hb.cell (block_lt_of_cell (HX.out k hlt))).trans (HX.out k hlt)
      have htk := tot_at f hlt
      have HB := Lib.hid hb
      clear hb
      go_wp2_with fail
      refine (stage_any (f k) _ (by omega)).mono ?_
      rintro e w2 ⟨q2, rfl, P2, b2⟩
      clear hc htk
      go_wp2_with fail
      go_roundw
      case rel =>
        have b3 := below_fresh w2 (.cells #[.pointer none, .slice none 0 0, .slice none 0 0, .pointer none, .pointer (some ⟨q, 0, none⟩), .pointer (some ⟨q2, 0, none⟩), .slice none 0 0, .int .i64 1] 60)
        have hz := HB.out.size
        have hz2 := b2.size
        refine ⟨k + 1, w2.heap.size, by omega, by omega, by go_num, rfl, ?_, HB.out.trans ((b2.trans (b3.mono hz2)).mono hz)⟩
        rw [pipeF_step f k k0]
        intro wv hf
        have hzv : w2.heap.size + 1 ≤ wv.heap.size := by simpa using hf.1
        refine query_bin _ w2.heap.size ⟨q, 0, none⟩ ⟨q2, 0, none⟩ 1 _ _ (by omega) (by decide) (by decide) ((hf.cell (by omega) (by simp; try omega)).trans (by simp [go_sem])) ((hf.cell (by omega) (by simp; try omega)).trans (by simp [go_sem])) ((hf.cell (by omega) (by simp; try omega)).trans (by simp [go_sem])) ((hf.cell (by omega) (by simp; try omega)).trans (by simp [go_sem])) ((hf.cell (by omega) (by simp; try omega)).trans (by simp [go_sem])) ((hf.cell (by omega) (by simp; try omega)).trans (by simp [go_sem])) ((hf.cell (by omega) (by simp; try omega)).trans (by simp [go_sem])) ((hf.cell (by omega) (by simp; try omega)).trans (by simp [go_sem])) ((P.later (b2.trans (b3.mono hz2))) wv hf) (((P2.later b3).mono hz) wv hf)
      case measure => simp [intOf]; omega
    · obtain rfl : n = k := by omega
      go_wp2_with fail
      go_ret
      exact ⟨q, rfl, P, hb⟩
theorem pipe_any (a : Option Addr) (n c : Nat) (f : Nat → ByteArray) (w : World) (hn : n ≤ 65536) (ht : tot f n ≤ 1048576) (h : StrIn w a n c f) :
    Calls Tryd.prog 31 #[.slice a n c] w (MkF 37 (pipeF f n) w) := by
  by_cases h0 : n = 0
  · subst h0; exact pipe_nil a c f w
  · exact pipe_some a n c f w (by omega) hn ht h
end Go.Proofs.YtboekgedfhdaaaaDoor
