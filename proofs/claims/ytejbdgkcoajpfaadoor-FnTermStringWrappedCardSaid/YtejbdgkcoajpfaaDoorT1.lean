/- Suffix.writeTo of three kinds; Term.writeTo of a leaf term with any list of such suffixes. Condition: the text stays below 2^40 bytes. -/
import Derived.Test.YtejbdgkcoajpfaaDoorComp
import Derived.Lib.Hide
import Derived.Outline
set_option linter.unusedVariables false
namespace Go.Proofs.YtejbdgkcoajpfaaDoor
open Go.Shelf Go.RowKit

theorem blk_lt {w : World} {p : Addr} {v : Value} (h : w.cell? p = some v) : p.block < w.heap.size := by
  unfold World.cell? at h
  rcases Nat.lt_or_ge p.block w.heap.size with h' | h'
  · exact h'
  · simp [Array.getElem?_eq_none h'] at h
/-- What a suffix of code c adds behind the text l. -/
def sfxAdd (l : List UInt8) (c : Nat) : List UInt8 := if c % 3 = 0 then [91, 93] else if c % 3 = 1 then [63] else gap l ++ [46, 97]
def sfxN (f : Nat → Nat) (l : List UInt8) : Nat → List UInt8
  | 0 => []
  | k + 1 => sfxN f l k ++ sfxAdd (l ++ sfxN f l k) (f k)
theorem gap_le (l : List UInt8) : (gap l).length ≤ 1 := by unfold gap; split <;> simp
theorem sfxAdd_le (l : List UInt8) (c : Nat) : (sfxAdd l c).length ≤ 3 := by
  have := gap_le l
  unfold sfxAdd
  split
  · simp
  · split
    · simp
    · simp only [List.length_append, List.length_cons, List.length_nil]; omega
theorem sfxN_le (f : Nat → Nat) (l : List UInt8) : ∀ k, (sfxN f l k).length ≤ 3 * k
  | 0 => Nat.le_refl _
  | k + 1 => by
    have := sfxN_le f l k
    have := sfxAdd_le (l ++ sfxN f l k) (f k)
    rw [sfxN, List.length_append]; omega
theorem sfxN_mono (f : Nat → Nat) (l : List UInt8) (k : Nat) : ∀ d, (sfxN f l k).length ≤ (sfxN f l (k + d)).length
  | 0 => Nat.le_refl _
  | d + 1 => by
    have := sfxN_mono f l k d
    show _ ≤ (sfxN f l (k + d + 1)).length
    rw [sfxN, List.length_append]; omega
/-- A suffix of code c stands at block a. -/
def SufAt (w : World) (c a : Nat) : Prop := a < w.heap.size ∧
  (if c % 3 = 0 then w.cell? ⟨a, 0, none⟩ = some (.pointer none) ∧ w.cell? ⟨a, 1, none⟩ = some (.bool true)
   else if c % 3 = 1 then w.cell? ⟨a, 0, none⟩ = some (.pointer none) ∧ w.cell? ⟨a, 1, none⟩ = some (.bool false) ∧ w.cell? ⟨a, 2, none⟩ = some (.bool true)
   else ∃ x, x < w.heap.size ∧ w.cell? ⟨a, 0, none⟩ = some (.pointer (some ⟨x, 0, none⟩)) ∧ w.cell? ⟨x, 0, none⟩ = some (.string ⟨#[97]⟩))
theorem SufAt.below {w w' : World} {c a : Nat} (h : SufAt w c a) (hb : Below w.heap.size w w') : SufAt w' c a := by
  obtain ⟨ha, h⟩ := h
  refine ⟨Nat.lt_of_lt_of_le ha hb.size, ?_⟩
  by_cases e0 : c % 3 = 0
  · rw [if_pos e0] at h ⊢
    exact ⟨(hb.cell (p := ⟨a, 0, none⟩) ha).trans h.1, (hb.cell (p := ⟨a, 1, none⟩) ha).trans h.2⟩
  · rw [if_neg e0] at h ⊢
    by_cases e1 : c % 3 = 1
    · rw [if_pos e1] at h ⊢
      exact ⟨(hb.cell (p := ⟨a, 0, none⟩) ha).trans h.1, (hb.cell (p := ⟨a, 1, none⟩) ha).trans h.2.1, (hb.cell (p := ⟨a, 2, none⟩) ha).trans h.2.2⟩
    · rw [if_neg e1] at h ⊢
      obtain ⟨x, hx, h1, h2⟩ := h
      exact ⟨x, Nat.lt_of_lt_of_le hx hb.size, (hb.cell (p := ⟨a, 0, none⟩) ha).trans h1, (hb.cell (p := ⟨x, 0, none⟩) hx).trans h2⟩
set_option maxRecDepth 100000 in
theorem suf_iter (w0 : World) (a : Nat) (ha : a < w0.heap.size) (c0 : w0.cell? ⟨a, 0, none⟩ = some (.pointer none)) (c1 : w0.cell? ⟨a, 1, none⟩ = some (.bool true)) :
    Prints 60 w0 ⟨a, 0, none⟩ (fun _ => [91, 93]) := by
  intro B b l w hB hbw hbb hlen
  have d0 : w.cell? ⟨a, 0, none⟩ = some (.pointer none) := (hbw.cell (p := ⟨a, 0, none⟩) ha).trans c0
  have d1 : w.cell? ⟨a, 1, none⟩ = some (.bool true) := (hbw.cell (p := ⟨a, 1, none⟩) ha).trans c1
  clear c0 c1
  go_enter Tryd.func60, Tryd.ntmps60
  go_wp2_with fail
  refine (bb_WriteString B b l ⟨#[91, 93]⟩ _ hbb hlen).mono ?_
  rintro e w1 ⟨rfl, h1, b1⟩
  go_wp2_with fail
  go_end0
  exact ⟨rfl, h1, b1⟩
set_option maxRecDepth 100000 in
theorem suf_opt (w0 : World) (a : Nat) (ha : a < w0.heap.size) (c0 : w0.cell? ⟨a, 0, none⟩ = some (.pointer none)) (c1 : w0.cell? ⟨a, 1, none⟩ = some (.bool false)) (c2 : w0.cell? ⟨a, 2, none⟩ = some (.bool true)) :
    Prints 60 w0 ⟨a, 0, none⟩ (fun _ => [63]) := by
  intro B b l w hB hbw hbb hlen
  have d0 : w.cell? ⟨a, 0, none⟩ = some (.pointer none) := (hbw.cell (p := ⟨a, 0, none⟩) ha).trans c0
  have d1 : w.cell? ⟨a, 1, none⟩ = some (.bool false) := (hbw.cell (p := ⟨a, 1, none⟩) ha).trans c1
  have d2 : w.cell? ⟨a, 2, none⟩ = some (.bool true) := (hbw.cell (p := ⟨a, 2, none⟩) ha).trans c2
  clear c0 c1 c2
  go_enter Tryd.func60, Tryd.ntmps60
  go_wp2_with fail
  refine (bb_WriteByte B b l 63 63 _ hbb rfl hlen).mono ?_
  rintro e w1 ⟨rfl, h1, b1⟩
  go_wp2_with fail
  go_end0
  exact ⟨rfl, h1, b1⟩
set_option maxRecDepth 100000 in
theorem suf_index (w0 : World) (a x : Nat) (f : List UInt8 → List UInt8) (ha : a < w0.heap.size) (hx : x < w0.heap.size) (c0 : w0.cell? ⟨a, 0, none⟩ = some (.pointer (some ⟨x, 0, none⟩))) (c1 : w0.cell? ⟨x, 0, none⟩ = some (.string ⟨#[97]⟩)) (hp : Prints 51 w0 ⟨x, 0, none⟩ f) :
    Prints 60 w0 ⟨a, 0, none⟩ f := by
  intro B b l w hB hbw hbb hlen
  have d0 : w.cell? ⟨a, 0, none⟩ = some (.pointer (some ⟨x, 0, none⟩)) := (hbw.cell (p := ⟨a, 0, none⟩) ha).trans c0
  have d1 : w.cell? ⟨x, 0, none⟩ = some (.string ⟨#[97]⟩) := (hbw.cell (p := ⟨x, 0, none⟩) hx).trans c1
  clear c0 c1
  go_enter Tryd.func60, Tryd.ntmps60
  go_wp2_with fail
  refine (hp B b l _ hB hbw hbb hlen).mono ?_
  rintro e w1 ⟨rfl, h1, b1⟩
  go_wp2_with fail
  go_end0
  exact ⟨rfl, h1, b1⟩
theorem suf_any (w0 : World) (c a : Nat) (h : SufAt w0 c a) : Prints 60 w0 ⟨a, 0, none⟩ (fun l => sfxAdd l c) := by
  obtain ⟨ha, h⟩ := h
  by_cases e0 : c % 3 = 0
  · rw [if_pos e0] at h
    exact (suf_iter w0 a ha h.1 h.2).congr (fun l => by rw [sfxAdd, if_pos e0])
  · rw [if_neg e0] at h
    by_cases e1 : c % 3 = 1
    · rw [if_pos e1] at h
      exact (suf_opt w0 a ha h.1 h.2.1 h.2.2).congr (fun l => by rw [sfxAdd, if_neg e0, if_pos e1])
    · rw [if_neg e1] at h
      obtain ⟨x, hx, h1, h2⟩ := h
      exact (suf_index w0 a x _ ha hx h1 h2 (index_name w0 x ⟨#[97]⟩ hx (by rw [ByteArray.toList_eq]; rfl) h2)).congr (fun l => by rw [sfxAdd, if_neg e0, if_neg e1])
/-- A list of suffixes. -/
def SufIn (w : World) (a : Option Addr) (n : Nat) (f : Nat → Nat) : Prop := n = 0 ∨ ∃ x, a = some x ∧ ∀ j, j < n → ∃ b, w.cell? (x.add j) = some (.pointer (some ⟨b, 0, none⟩)) ∧ SufAt w (f j) b
theorem SufIn.below {w w' : World} {a : Option Addr} {n : Nat} {f : Nat → Nat} (h : SufIn w a n f) (hb : Below w.heap.size w w') : SufIn w' a n f := by
  rcases h with h | ⟨x, rfl, hx⟩
  · exact Or.inl h
  · exact Or.inr ⟨x, rfl, fun j hj => by
      obtain ⟨b, h1, h2⟩ := hx j hj
      exact ⟨b, (hb.cell (blk_lt h1)).trans h1, h2.below hb⟩⟩

set_option maxRecDepth 100000 in
theorem leaf_ident (w0 : World) (t : Nat) (a : Option Addr) (n cp : Nat) (f : Nat → Nat) (ht : t < w0.heap.size) (hn : n ≤ 65536) (c0 : w0.cell? ⟨t, 0, none⟩ = some (.int .i64 1))  (c16 : w0.cell? ⟨t, 16, none⟩ = some (.slice a n cp)) (hs : SufIn w0 a n f) :
    Prints 45 w0 ⟨t, 0, none⟩ (fun l => [46] ++ sfxN f (l ++ ([46])) n) := by
  intro B b l w hB hbw hbb hlen
  have HLEN := Lib.hid (show l.length + (([46]) ++ sfxN f (l ++ ([46])) n).length ≤ 1099511627776 from hlen)
  clear hlen
  have d0 : w.cell? ⟨t, 0, none⟩ = some (.int .i64 1) := (hbw.cell (p := ⟨t, 0, none⟩) ht).trans c0
  have d16 : w.cell? ⟨t, 16, none⟩ = some (.slice a n cp) := (hbw.cell (p := ⟨t, 16, none⟩) ht).trans c16
  clear c0 c16
  have ht' : t < B := Nat.lt_of_lt_of_le ht hB
  have HS := Lib.hid hs
  clear hs
  go_enter Tryd.func45, Tryd.ntmps45
  go_wp2_with fail
  refine (bb_WriteByte B b l 46 46 _ hbb rfl (by have := HLEN.out; simp only [List.length_append, List.length_cons, List.length_nil] at this ⊢; omega)).mono ?_
  rintro e w1 ⟨rfl, h1, b1⟩
  have e16 : w1.cell? ⟨t, 16, none⟩ = some (.slice a n cp) := (b1.cell (p := ⟨t, 16, none⟩) ht').trans d16
  generalize hT : ([46] : List UInt8) = T at *
  go_wp2_with fail
  go_loopw [174] (fun i wr => ∃ k : Nat, k ≤ n ∧ i = .int .i64 k ∧ BB B b (l ++ T ++ sfxN f (l ++ T) k) wr ∧ Below B w wr) (fun i _ => n - (intOf i).toNat)
  case atStart => exact ⟨0, Nat.zero_le _, rfl, by rw [sfxN, List.append_nil]; exact h1, b1⟩
  case round =>
    clear h1 b1
    obtain ⟨k, hk, rfl, hbb, hb⟩ := hrel
    by_cases hlt : k < n
    · have hbw1 : Below w0.heap.size w0 wr := hbw.trans (hb.mono hB)
      rcases HS.out.below hbw1 with h0 | ⟨x, rfl, hx⟩
      · omega
      obtain ⟨sb, hc, hsuf⟩ := hx k hlt
      rcases HS.out with h0 | ⟨x', hxx, hx'⟩
      · omega
      injection hxx with hxx
      subst hxx
      obtain ⟨sb', hc', hsuf'⟩ := hx' k hlt
      have es : sb' = sb := by
        have := (hbw1.cell (blk_lt hc')).trans hc'
        rw [hc] at this
        simpa using this.symm
      subst es
      have PS := suf_any w0 (f k) sb' hsuf'
      have hm := sfxN_mono f (l ++ T) (k + 1) (n - (k + 1))
      rw [show k + 1 + (n - (k + 1)) = n by omega, sfxN, List.length_append] at hm
      have HM := Lib.hid hm
      clear hx hx' hsuf hsuf' hc' hm
      go_wp2_with fail
      refine (PS B b (l ++ T ++ sfxN f (l ++ T) k) _ hB hbw1 hbb (by have q1 := HLEN.out; have q2 := HM.out; simp only [List.length_append] at q1 ⊢; omega)).mono ?_
      rintro e w2 ⟨rfl, h2, b2⟩
      go_wp2_with fail
      go_roundw
      case rel => exact ⟨k + 1, by omega, by go_num, by rw [sfxN, ← List.append_assoc]; exact h2, hb.trans b2⟩
      case measure => simp [intOf]; omega
    · obtain rfl : n = k := by omega
      go_wp2_with fail
      go_end0
      subst hT
      exact ⟨rfl, by simpa using hbb, hb⟩

set_option maxRecDepth 100000 in
theorem leaf_rec (w0 : World) (t : Nat) (a : Option Addr) (n cp : Nat) (f : Nat → Nat) (ht : t < w0.heap.size) (hn : n ≤ 65536) (c0 : w0.cell? ⟨t, 0, none⟩ = some (.int .i64 2))  (c16 : w0.cell? ⟨t, 16, none⟩ = some (.slice a n cp)) (hs : SufIn w0 a n f) :
    Prints 45 w0 ⟨t, 0, none⟩ (fun l => [46, 46] ++ sfxN f (l ++ ([46, 46])) n) := by
  intro B b l w hB hbw hbb hlen
  have HLEN := Lib.hid (show l.length + (([46, 46]) ++ sfxN f (l ++ ([46, 46])) n).length ≤ 1099511627776 from hlen)
  clear hlen
  have d0 : w.cell? ⟨t, 0, none⟩ = some (.int .i64 2) := (hbw.cell (p := ⟨t, 0, none⟩) ht).trans c0
  have d16 : w.cell? ⟨t, 16, none⟩ = some (.slice a n cp) := (hbw.cell (p := ⟨t, 16, none⟩) ht).trans c16
  clear c0 c16
  have ht' : t < B := Nat.lt_of_lt_of_le ht hB
  have HS := Lib.hid hs
  clear hs
  go_enter Tryd.func45, Tryd.ntmps45
  go_wp2_with fail
  refine (bb_WriteString B b l ⟨#[46, 46]⟩ _ hbb (by have := HLEN.out; simp only [List.length_append, List.length_cons, List.length_nil] at this ⊢; omega)).mono ?_
  rintro e w1 ⟨rfl, h1, b1⟩
  have e16 : w1.cell? ⟨t, 16, none⟩ = some (.slice a n cp) := (b1.cell (p := ⟨t, 16, none⟩) ht').trans d16
  generalize hT : ([46, 46] : List UInt8) = T at *
  go_wp2_with fail
  go_loopw [174] (fun i wr => ∃ k : Nat, k ≤ n ∧ i = .int .i64 k ∧ BB B b (l ++ T ++ sfxN f (l ++ T) k) wr ∧ Below B w wr) (fun i _ => n - (intOf i).toNat)
  case atStart => exact ⟨0, Nat.zero_le _, rfl, by rw [sfxN, List.append_nil]; exact h1, b1⟩
  case round =>
    clear h1 b1
    obtain ⟨k, hk, rfl, hbb, hb⟩ := hrel
    by_cases hlt : k < n
    · have hbw1 : Below w0.heap.size w0 wr := hbw.trans (hb.mono hB)
      rcases HS.out.below hbw1 with h0 | ⟨x, rfl, hx⟩
      · omega
      obtain ⟨sb, hc, hsuf⟩ := hx k hlt
      rcases HS.out with h0 | ⟨x', hxx, hx'⟩
      · omega
      injection hxx with hxx
      subst hxx
      obtain ⟨sb', hc', hsuf'⟩ := hx' k hlt
      have es : sb' = sb := by
        have := (hbw1.cell (blk_lt hc')).trans hc'
        rw [hc] at this
        simpa using this.symm
      subst es
      have PS := suf_any w0 (f k) sb' hsuf'
      have hm := sfxN_mono f (l ++ T) (k + 1) (n - (k + 1))
      rw [show k + 1 + (n - (k + 1)) = n by omega, sfxN, List.length_append] at hm
      have HM := Lib.hid hm
      clear hx hx' hsuf hsuf' hc' hm
      go_wp2_with fail
      refine (PS B b (l ++ T ++ sfxN f (l ++ T) k) _ hB hbw1 hbb (by have q1 := HLEN.out; have q2 := HM.out; simp only [List.length_append] at q1 ⊢; omega)).mono ?_
      rintro e w2 ⟨rfl, h2, b2⟩
      go_wp2_with fail
      go_roundw
      case rel => exact ⟨k + 1, by omega, by go_num, by rw [sfxN, ← List.append_assoc]; exact h2, hb.trans b2⟩
      case measure => simp [intOf]; omega
    · obtain rfl : n = k := by omega
      go_wp2_with fail
      go_end0
      subst hT
      exact ⟨rfl, by simpa using hbb, hb⟩

set_option maxRecDepth 100000 in
theorem leaf_null (w0 : World) (t : Nat) (a : Option Addr) (n cp : Nat) (f : Nat → Nat) (ht : t < w0.heap.size) (hn : n ≤ 65536) (c0 : w0.cell? ⟨t, 0, none⟩ = some (.int .i64 3))  (c16 : w0.cell? ⟨t, 16, none⟩ = some (.slice a n cp)) (hs : SufIn w0 a n f) :
    Prints 45 w0 ⟨t, 0, none⟩ (fun l => [110, 117, 108, 108] ++ sfxN f (l ++ ([110, 117, 108, 108])) n) := by
  intro B b l w hB hbw hbb hlen
  have HLEN := Lib.hid (show l.length + (([110, 117, 108, 108]) ++ sfxN f (l ++ ([110, 117, 108, 108])) n).length ≤ 1099511627776 from hlen)
  clear hlen
  have d0 : w.cell? ⟨t, 0, none⟩ = some (.int .i64 3) := (hbw.cell (p := ⟨t, 0, none⟩) ht).trans c0
  have d16 : w.cell? ⟨t, 16, none⟩ = some (.slice a n cp) := (hbw.cell (p := ⟨t, 16, none⟩) ht).trans c16
  clear c0 c16
  have ht' : t < B := Nat.lt_of_lt_of_le ht hB
  have HS := Lib.hid hs
  clear hs
  go_enter Tryd.func45, Tryd.ntmps45
  go_wp2_with fail
  refine (bb_WriteString B b l ⟨#[110, 117, 108, 108]⟩ _ hbb (by have := HLEN.out; simp only [List.length_append, List.length_cons, List.length_nil] at this ⊢; omega)).mono ?_
  rintro e w1 ⟨rfl, h1, b1⟩
  have e16 : w1.cell? ⟨t, 16, none⟩ = some (.slice a n cp) := (b1.cell (p := ⟨t, 16, none⟩) ht').trans d16
  generalize hT : ([110, 117, 108, 108] : List UInt8) = T at *
  go_wp2_with fail
  go_loopw [174] (fun i wr => ∃ k : Nat, k ≤ n ∧ i = .int .i64 k ∧ BB B b (l ++ T ++ sfxN f (l ++ T) k) wr ∧ Below B w wr) (fun i _ => n - (intOf i).toNat)
  case atStart => exact ⟨0, Nat.zero_le _, rfl, by rw [sfxN, List.append_nil]; exact h1, b1⟩
  case round =>
    clear h1 b1
    obtain ⟨k, hk, rfl, hbb, hb⟩ := hrel
    by_cases hlt : k < n
    · have hbw1 : Below w0.heap.size w0 wr := hbw.trans (hb.mono hB)
      rcases HS.out.below hbw1 with h0 | ⟨x, rfl, hx⟩
      · omega
      obtain ⟨sb, hc, hsuf⟩ := hx k hlt
      rcases HS.out with h0 | ⟨x', hxx, hx'⟩
      · omega
      injection hxx with hxx
      subst hxx
      obtain ⟨sb', hc', hsuf'⟩ := hx' k hlt
      have es : sb' = sb := by
        have := (hbw1.cell (blk_lt hc')).trans hc'
        rw [hc] at this
        simpa using this.symm
      subst es
      have PS := suf_any w0 (f k) sb' hsuf'
      have hm := sfxN_mono f (l ++ T) (k + 1) (n - (k + 1))
      rw [show k + 1 + (n - (k + 1)) = n by omega, sfxN, List.length_append] at hm
      have HM := Lib.hid hm
      clear hx hx' hsuf hsuf' hc' hm
      go_wp2_with fail
      refine (PS B b (l ++ T ++ sfxN f (l ++ T) k) _ hB hbw1 hbb (by have q1 := HLEN.out; have q2 := HM.out; simp only [List.length_append] at q1 ⊢; omega)).mono ?_
      rintro e w2 ⟨rfl, h2, b2⟩
      go_wp2_with fail
      go_roundw
      case rel => exact ⟨k + 1, by omega, by go_num, by rw [sfxN, ← List.append_assoc]; exact h2, hb.trans b2⟩
      case measure => simp [intOf]; omega
    · obtain rfl : n = k := by omega
      go_wp2_with fail
      go_end0
      subst hT
      exact ⟨rfl, by simpa using hbb, hb⟩

set_option maxRecDepth 100000 in
theorem leaf_true (w0 : World) (t : Nat) (a : Option Addr) (n cp : Nat) (f : Nat → Nat) (ht : t < w0.heap.size) (hn : n ≤ 65536) (c0 : w0.cell? ⟨t, 0, none⟩ = some (.int .i64 4))  (c16 : w0.cell? ⟨t, 16, none⟩ = some (.slice a n cp)) (hs : SufIn w0 a n f) :
    Prints 45 w0 ⟨t, 0, none⟩ (fun l => [116, 114, 117, 101] ++ sfxN f (l ++ ([116, 114, 117, 101])) n) := by
  intro B b l w hB hbw hbb hlen
  have HLEN := Lib.hid (show l.length + (([116, 114, 117, 101]) ++ sfxN f (l ++ ([116, 114, 117, 101])) n).length ≤ 1099511627776 from hlen)
  clear hlen
  have d0 : w.cell? ⟨t, 0, none⟩ = some (.int .i64 4) := (hbw.cell (p := ⟨t, 0, none⟩) ht).trans c0
  have d16 : w.cell? ⟨t, 16, none⟩ = some (.slice a n cp) := (hbw.cell (p := ⟨t, 16, none⟩) ht).trans c16
  clear c0 c16
  have ht' : t < B := Nat.lt_of_lt_of_le ht hB
  have HS := Lib.hid hs
  clear hs
  go_enter Tryd.func45, Tryd.ntmps45
  go_wp2_with fail
  refine (bb_WriteString B b l ⟨#[116, 114, 117, 101]⟩ _ hbb (by have := HLEN.out; simp only [List.length_append, List.length_cons, List.length_nil] at this ⊢; omega)).mono ?_
  rintro e w1 ⟨rfl, h1, b1⟩
  have e16 : w1.cell? ⟨t, 16, none⟩ = some (.slice a n cp) := (b1.cell (p := ⟨t, 16, none⟩) ht').trans d16
  generalize hT : ([116, 114, 117, 101] : List UInt8) = T at *
  go_wp2_with fail
  go_loopw [174] (fun i wr => ∃ k : Nat, k ≤ n ∧ i = .int .i64 k ∧ BB B b (l ++ T ++ sfxN f (l ++ T) k) wr ∧ Below B w wr) (fun i _ => n - (intOf i).toNat)
  case atStart => exact ⟨0, Nat.zero_le _, rfl, by rw [sfxN, List.append_nil]; exact h1, b1⟩
  case round =>
    clear h1 b1
    obtain ⟨k, hk, rfl, hbb, hb⟩ := hrel
    by_cases hlt : k < n
    · have hbw1 : Below w0.heap.size w0 wr := hbw.trans (hb.mono hB)
      rcases HS.out.below hbw1 with h0 | ⟨x, rfl, hx⟩
      · omega
      obtain ⟨sb, hc, hsuf⟩ := hx k hlt
      rcases HS.out with h0 | ⟨x', hxx, hx'⟩
      · omega
      injection hxx with hxx
      subst hxx
      obtain ⟨sb', hc', hsuf'⟩ := hx' k hlt
      have es : sb' = sb := by
        have := (hbw1.cell (blk_lt hc')).trans hc'
        rw [hc] at this
        simpa using this.symm
      subst es
      have PS := suf_any w0 (f k) sb' hsuf'
      have hm := sfxN_mono f (l ++ T) (k + 1) (n - (k + 1))
      rw [show k + 1 + (n - (k + 1)) = n by omega, sfxN, List.length_append] at hm
      have HM := Lib.hid hm
      clear hx hx' hsuf hsuf' hc' hm
      go_wp2_with fail
      refine (PS B b (l ++ T ++ sfxN f (l ++ T) k) _ hB hbw1 hbb (by have q1 := HLEN.out; have q2 := HM.out; simp only [List.length_append] at q1 ⊢; omega)).mono ?_
      rintro e w2 ⟨rfl, h2, b2⟩
      go_wp2_with fail
      go_roundw
      case rel => exact ⟨k + 1, by omega, by go_num, by rw [sfxN, ← List.append_assoc]; exact h2, hb.trans b2⟩
      case measure => simp [intOf]; omega
    · obtain rfl : n = k := by omega
      go_wp2_with fail
      go_end0
      subst hT
      exact ⟨rfl, by simpa using hbb, hb⟩

set_option maxRecDepth 100000 in
theorem leaf_false (w0 : World) (t : Nat) (a : Option Addr) (n cp : Nat) (f : Nat → Nat) (ht : t < w0.heap.size) (hn : n ≤ 65536) (c0 : w0.cell? ⟨t, 0, none⟩ = some (.int .i64 5))  (c16 : w0.cell? ⟨t, 16, none⟩ = some (.slice a n cp)) (hs : SufIn w0 a n f) :
    Prints 45 w0 ⟨t, 0, none⟩ (fun l => [102, 97, 108, 115, 101] ++ sfxN f (l ++ ([102, 97, 108, 115, 101])) n) := by
  intro B b l w hB hbw hbb hlen
  have HLEN := Lib.hid (show l.length + (([102, 97, 108, 115, 101]) ++ sfxN f (l ++ ([102, 97, 108, 115, 101])) n).length ≤ 1099511627776 from hlen)
  clear hlen
  have d0 : w.cell? ⟨t, 0, none⟩ = some (.int .i64 5) := (hbw.cell (p := ⟨t, 0, none⟩) ht).trans c0
  have d16 : w.cell? ⟨t, 16, none⟩ = some (.slice a n cp) := (hbw.cell (p := ⟨t, 16, none⟩) ht).trans c16
  clear c0 c16
  have ht' : t < B := Nat.lt_of_lt_of_le ht hB
  have HS := Lib.hid hs
  clear hs
  go_enter Tryd.func45, Tryd.ntmps45
  go_wp2_with fail
  refine (bb_WriteString B b l ⟨#[102, 97, 108, 115, 101]⟩ _ hbb (by have := HLEN.out; simp only [List.length_append, List.length_cons, List.length_nil] at this ⊢; omega)).mono ?_
  rintro e w1 ⟨rfl, h1, b1⟩
  have e16 : w1.cell? ⟨t, 16, none⟩ = some (.slice a n cp) := (b1.cell (p := ⟨t, 16, none⟩) ht').trans d16
  generalize hT : ([102, 97, 108, 115, 101] : List UInt8) = T at *
  go_wp2_with fail
  go_loopw [174] (fun i wr => ∃ k : Nat, k ≤ n ∧ i = .int .i64 k ∧ BB B b (l ++ T ++ sfxN f (l ++ T) k) wr ∧ Below B w wr) (fun i _ => n - (intOf i).toNat)
  case atStart => exact ⟨0, Nat.zero_le _, rfl, by rw [sfxN, List.append_nil]; exact h1, b1⟩
  case round =>
    clear h1 b1
    obtain ⟨k, hk, rfl, hbb, hb⟩ := hrel
    by_cases hlt : k < n
    · have hbw1 : Below w0.heap.size w0 wr := hbw.trans (hb.mono hB)
      rcases HS.out.below hbw1 with h0 | ⟨x, rfl, hx⟩
      · omega
      obtain ⟨sb, hc, hsuf⟩ := hx k hlt
      rcases HS.out with h0 | ⟨x', hxx, hx'⟩
      · omega
      injection hxx with hxx
      subst hxx
      obtain ⟨sb', hc', hsuf'⟩ := hx' k hlt
      have es : sb' = sb := by
        have := (hbw1.cell (blk_lt hc')).trans hc'
        rw [hc] at this
        simpa using this.symm
      subst es
      have PS := suf_any w0 (f k) sb' hsuf'
      have hm := sfxN_mono f (l ++ T) (k + 1) (n - (k + 1))
      rw [show k + 1 + (n - (k + 1)) = n by omega, sfxN, List.length_append] at hm
      have HM := Lib.hid hm
      clear hx hx' hsuf hsuf' hc' hm
      go_wp2_with fail
      refine (PS B b (l ++ T ++ sfxN f (l ++ T) k) _ hB hbw1 hbb (by have q1 := HLEN.out; have q2 := HM.out; simp only [List.length_append] at q1 ⊢; omega)).mono ?_
      rintro e w2 ⟨rfl, h2, b2⟩
      go_wp2_with fail
      go_roundw
      case rel => exact ⟨k + 1, by omega, by go_num, by rw [sfxN, ← List.append_assoc]; exact h2, hb.trans b2⟩
      case measure => simp [intOf]; omega
    · obtain rfl : n = k := by omega
      go_wp2_with fail
      go_end0
      subst hT
      exact ⟨rfl, by simpa using hbb, hb⟩

set_option maxRecDepth 100000 in
theorem leaf_num (w0 : World) (t : Nat) (s : ByteArray) (a : Option Addr) (n cp : Nat) (f : Nat → Nat) (ht : t < w0.heap.size) (hn : n ≤ 65536) (c0 : w0.cell? ⟨t, 0, none⟩ = some (.int .i64 10)) (c5 : w0.cell? ⟨t, 5, none⟩ = some (.string s)) (c16 : w0.cell? ⟨t, 16, none⟩ = some (.slice a n cp)) (hs : SufIn w0 a n f) :
    Prints 45 w0 ⟨t, 0, none⟩ (fun l => s.data.toList ++ sfxN f (l ++ (s.data.toList)) n) := by
  intro B b l w hB hbw hbb hlen
  have HLEN := Lib.hid (show l.length + ((s.data.toList) ++ sfxN f (l ++ (s.data.toList)) n).length ≤ 1099511627776 from hlen)
  clear hlen
  have d0 : w.cell? ⟨t, 0, none⟩ = some (.int .i64 10) := (hbw.cell (p := ⟨t, 0, none⟩) ht).trans c0
  have d5 : w.cell? ⟨t, 5, none⟩ = some (.string s) := (hbw.cell (p := ⟨t, 5, none⟩) ht).trans c5
  have d16 : w.cell? ⟨t, 16, none⟩ = some (.slice a n cp) := (hbw.cell (p := ⟨t, 16, none⟩) ht).trans c16
  clear c0 c5 c16
  have ht' : t < B := Nat.lt_of_lt_of_le ht hB
  have HS := Lib.hid hs
  clear hs
  go_enter Tryd.func45, Tryd.ntmps45
  go_wp2_with fail
  refine (bb_WriteString B b l s _ hbb (by have := HLEN.out; simp only [List.length_append] at this ⊢; omega)).mono ?_
  rintro e w1 ⟨rfl, h1, b1⟩
  have e16 : w1.cell? ⟨t, 16, none⟩ = some (.slice a n cp) := (b1.cell (p := ⟨t, 16, none⟩) ht').trans d16
  generalize hT : (s.data.toList : List UInt8) = T at *
  go_wp2_with fail
  go_loopw [174] (fun i wr => ∃ k : Nat, k ≤ n ∧ i = .int .i64 k ∧ BB B b (l ++ T ++ sfxN f (l ++ T) k) wr ∧ Below B w wr) (fun i _ => n - (intOf i).toNat)
  case atStart => exact ⟨0, Nat.zero_le _, rfl, by rw [sfxN, List.append_nil]; exact h1, b1⟩
  case round =>
    clear h1 b1
    obtain ⟨k, hk, rfl, hbb, hb⟩ := hrel
    by_cases hlt : k < n
    · have hbw1 : Below w0.heap.size w0 wr := hbw.trans (hb.mono hB)
      rcases HS.out.below hbw1 with h0 | ⟨x, rfl, hx⟩
      · omega
      obtain ⟨sb, hc, hsuf⟩ := hx k hlt
      rcases HS.out with h0 | ⟨x', hxx, hx'⟩
      · omega
      injection hxx with hxx
      subst hxx
      obtain ⟨sb', hc', hsuf'⟩ := hx' k hlt
      have es : sb' = sb := by
        have := (hbw1.cell (blk_lt hc')).trans hc'
        rw [hc] at this
        simpa using this.symm
      subst es
      have PS := suf_any w0 (f k) sb' hsuf'
      have hm := sfxN_mono f (l ++ T) (k + 1) (n - (k + 1))
      rw [show k + 1 + (n - (k + 1)) = n by omega, sfxN, List.length_append] at hm
      have HM := Lib.hid hm
      clear hx hx' hsuf hsuf' hc' hm
      go_wp2_with fail
      refine (PS B b (l ++ T ++ sfxN f (l ++ T) k) _ hB hbw1 hbb (by have q1 := HLEN.out; have q2 := HM.out; simp only [List.length_append] at q1 ⊢; omega)).mono ?_
      rintro e w2 ⟨rfl, h2, b2⟩
      go_wp2_with fail
      go_roundw
      case rel => exact ⟨k + 1, by omega, by go_num, by rw [sfxN, ← List.append_assoc]; exact h2, hb.trans b2⟩
      case measure => simp [intOf]; omega
    · obtain rfl : n = k := by omega
      go_wp2_with fail
      go_end0
      subst hT
      exact ⟨rfl, by simpa using hbb, hb⟩

set_option maxRecDepth 100000 in
theorem leaf_break (w0 : World) (t : Nat) (s : ByteArray) (a : Option Addr) (n cp : Nat) (f : Nat → Nat) (ht : t < w0.heap.size) (hn : n ≤ 65536) (c0 : w0.cell? ⟨t, 0, none⟩ = some (.int .i64 19)) (c14 : w0.cell? ⟨t, 14, none⟩ = some (.string s)) (c16 : w0.cell? ⟨t, 16, none⟩ = some (.slice a n cp)) (hs : SufIn w0 a n f) :
    Prints 45 w0 ⟨t, 0, none⟩ (fun l => [98, 114, 101, 97, 107, 32] ++ s.data.toList ++ sfxN f (l ++ ([98, 114, 101, 97, 107, 32] ++ s.data.toList)) n) := by
  intro B b l w hB hbw hbb hlen
  have HLEN := Lib.hid (show l.length + (([98, 114, 101, 97, 107, 32] ++ s.data.toList) ++ sfxN f (l ++ ([98, 114, 101, 97, 107, 32] ++ s.data.toList)) n).length ≤ 1099511627776 from hlen)
  clear hlen
  have d0 : w.cell? ⟨t, 0, none⟩ = some (.int .i64 19) := (hbw.cell (p := ⟨t, 0, none⟩) ht).trans c0
  have d14 : w.cell? ⟨t, 14, none⟩ = some (.string s) := (hbw.cell (p := ⟨t, 14, none⟩) ht).trans c14
  have d16 : w.cell? ⟨t, 16, none⟩ = some (.slice a n cp) := (hbw.cell (p := ⟨t, 16, none⟩) ht).trans c16
  clear c0 c14 c16
  have ht' : t < B := Nat.lt_of_lt_of_le ht hB
  have HS := Lib.hid hs
  clear hs
  go_enter Tryd.func45, Tryd.ntmps45
  go_wp2_with fail
  refine (bb_WriteString B b l ⟨#[98, 114, 101, 97, 107, 32]⟩ _ hbb (by have := HLEN.out; simp only [List.length_append, List.length_cons, List.length_nil] at this ⊢; omega)).mono ?_
  rintro e w9 ⟨rfl, h9, b9⟩
  have d14' : w9.cell? ⟨t, 14, none⟩ = some (.string s) := (b9.cell (p := ⟨t, 14, none⟩) ht').trans d14
  have d16' : w9.cell? ⟨t, 16, none⟩ = some (.slice a n cp) := (b9.cell (p := ⟨t, 16, none⟩) ht').trans d16
  have D16 := Lib.hid d16
  clear d0 d14 d16
  go_wp2_with fail
  refine (bb_WriteString B b _ s _ h9 (by have := HLEN.out; simp only [List.length_append, List.length_cons, List.length_nil] at this ⊢; omega)).mono ?_
  rintro e w1 ⟨rfl, h1, b1⟩
  have b1 := b9.trans b1
  rw [List.append_assoc] at h1
  have e16 : w1.cell? ⟨t, 16, none⟩ = some (.slice a n cp) := (b1.cell (p := ⟨t, 16, none⟩) ht').trans (D16.out)
  generalize hT : ([98, 114, 101, 97, 107, 32] ++ s.data.toList : List UInt8) = T at *
  go_wp2_with fail
  go_loopw [174] (fun i wr => ∃ k : Nat, k ≤ n ∧ i = .int .i64 k ∧ BB B b (l ++ T ++ sfxN f (l ++ T) k) wr ∧ Below B w wr) (fun i _ => n - (intOf i).toNat)
  case atStart => exact ⟨0, Nat.zero_le _, rfl, by rw [sfxN, List.append_nil]; exact h1, b1⟩
  case round =>
    clear h1 b1
    obtain ⟨k, hk, rfl, hbb, hb⟩ := hrel
    by_cases hlt : k < n
    · have hbw1 : Below w0.heap.size w0 wr := hbw.trans (hb.mono hB)
      rcases HS.out.below hbw1 with h0 | ⟨x, rfl, hx⟩
      · omega
      obtain ⟨sb, hc, hsuf⟩ := hx k hlt
      rcases HS.out with h0 | ⟨x', hxx, hx'⟩
      · omega
      injection hxx with hxx
      subst hxx
      obtain ⟨sb', hc', hsuf'⟩ := hx' k hlt
      have es : sb' = sb := by
        have := (hbw1.cell (blk_lt hc')).trans hc'
        rw [hc] at this
        simpa using this.symm
      subst es
      have PS := suf_any w0 (f k) sb' hsuf'
      have hm := sfxN_mono f (l ++ T) (k + 1) (n - (k + 1))
      rw [show k + 1 + (n - (k + 1)) = n by omega, sfxN, List.length_append] at hm
      have HM := Lib.hid hm
      clear hx hx' hsuf hsuf' hc' hm
      go_wp2_with fail
      refine (PS B b (l ++ T ++ sfxN f (l ++ T) k) _ hB hbw1 hbb (by have q1 := HLEN.out; have q2 := HM.out; simp only [List.length_append] at q1 ⊢; omega)).mono ?_
      rintro e w2 ⟨rfl, h2, b2⟩
      go_wp2_with fail
      go_roundw
      case rel => exact ⟨k + 1, by omega, by go_num, by rw [sfxN, ← List.append_assoc]; exact h2, hb.trans b2⟩
      case measure => simp [intOf]; omega
    · obtain rfl : n = k := by omega
      go_wp2_with fail
      go_end0
      subst hT
      exact ⟨rfl, by simpa using hbb, hb⟩

set_option maxRecDepth 100000 in
theorem leaf_format (w0 : World) (t : Nat) (s : ByteArray) (a : Option Addr) (n cp : Nat) (f : Nat → Nat) (ht : t < w0.heap.size) (hn : n ≤ 65536) (c0 : w0.cell? ⟨t, 0, none⟩ = some (.int .i64 12)) (c7 : w0.cell? ⟨t, 7, none⟩ = some (.string s)) (c8 : w0.cell? ⟨t, 8, none⟩ = some (.pointer none)) (c16 : w0.cell? ⟨t, 16, none⟩ = some (.slice a n cp)) (hs : SufIn w0 a n f) :
    Prints 45 w0 ⟨t, 0, none⟩ (fun l => s.data.toList ++ sfxN f (l ++ (s.data.toList)) n) := by
  intro B b l w hB hbw hbb hlen
  have HLEN := Lib.hid (show l.length + ((s.data.toList) ++ sfxN f (l ++ (s.data.toList)) n).length ≤ 1099511627776 from hlen)
  clear hlen
  have d0 : w.cell? ⟨t, 0, none⟩ = some (.int .i64 12) := (hbw.cell (p := ⟨t, 0, none⟩) ht).trans c0
  have d7 : w.cell? ⟨t, 7, none⟩ = some (.string s) := (hbw.cell (p := ⟨t, 7, none⟩) ht).trans c7
  have d8 : w.cell? ⟨t, 8, none⟩ = some (.pointer none) := (hbw.cell (p := ⟨t, 8, none⟩) ht).trans c8
  have d16 : w.cell? ⟨t, 16, none⟩ = some (.slice a n cp) := (hbw.cell (p := ⟨t, 16, none⟩) ht).trans c16
  clear c0 c7 c8 c16
  have ht' : t < B := Nat.lt_of_lt_of_le ht hB
  have HS := Lib.hid hs
  clear hs
  go_enter Tryd.func45, Tryd.ntmps45
  go_wp2_with fail
  refine (bb_WriteString B b l s _ hbb (by have := HLEN.out; simp only [List.length_append] at this ⊢; omega)).mono ?_
  rintro e w1 ⟨rfl, h1, b1⟩
  have e8 : w1.cell? ⟨t, 8, none⟩ = some (.pointer none) := (b1.cell (p := ⟨t, 8, none⟩) ht').trans d8
  have e16 : w1.cell? ⟨t, 16, none⟩ = some (.slice a n cp) := (b1.cell (p := ⟨t, 16, none⟩) ht').trans d16
  generalize hT : (s.data.toList : List UInt8) = T at *
  go_wp2_with fail
  go_loopw [174] (fun i wr => ∃ k : Nat, k ≤ n ∧ i = .int .i64 k ∧ BB B b (l ++ T ++ sfxN f (l ++ T) k) wr ∧ Below B w wr) (fun i _ => n - (intOf i).toNat)
  case atStart => exact ⟨0, Nat.zero_le _, rfl, by rw [sfxN, List.append_nil]; exact h1, b1⟩
  case round =>
    clear h1 b1
    obtain ⟨k, hk, rfl, hbb, hb⟩ := hrel
    by_cases hlt : k < n
    · have hbw1 : Below w0.heap.size w0 wr := hbw.trans (hb.mono hB)
      rcases HS.out.below hbw1 with h0 | ⟨x, rfl, hx⟩
      · omega
      obtain ⟨sb, hc, hsuf⟩ := hx k hlt
      rcases HS.out with h0 | ⟨x', hxx, hx'⟩
      · omega
      injection hxx with hxx
      subst hxx
      obtain ⟨sb', hc', hsuf'⟩ := hx' k hlt
      have es : sb' = sb := by
        have := (hbw1.cell (blk_lt hc')).trans hc'
        rw [hc] at this
        simpa using this.symm
      subst es
      have PS := suf_any w0 (f k) sb' hsuf'
      have hm := sfxN_mono f (l ++ T) (k + 1) (n - (k + 1))
      rw [show k + 1 + (n - (k + 1)) = n by omega, sfxN, List.length_append] at hm
      have HM := Lib.hid hm
      clear hx hx' hsuf hsuf' hc' hm
      go_wp2_with fail
      refine (PS B b (l ++ T ++ sfxN f (l ++ T) k) _ hB hbw1 hbb (by have q1 := HLEN.out; have q2 := HM.out; simp only [List.length_append] at q1 ⊢; omega)).mono ?_
      rintro e w2 ⟨rfl, h2, b2⟩
      go_wp2_with fail
      go_roundw
      case rel => exact ⟨k + 1, by omega, by go_num, by rw [sfxN, ← List.append_assoc]; exact h2, hb.trans b2⟩
      case measure => simp [intOf]; omega
    · obtain rfl : n = k := by omega
      go_wp2_with fail
      go_end0
      subst hT
      exact ⟨rfl, by simpa using hbb, hb⟩

end Go.Proofs.YtejbdgkcoajpfaaDoor
