/- What encodeString writes, as a machine over the rounds of its loop: plain facts. No condition. -/
import Derived.Test.YtinhadafmlplaaaDoorPr9
import Derived.Lib.RuneCount
import Derived.Lib.QuoteLoop
import Derived.Lib.Strings
set_option linter.unusedVariables false
namespace Go.Proofs.YtinhadafmlplaaaDoor
open Go.Shelf Go.RowKit

def hexD (n : Nat) : UInt8 := if n < 10 then UInt8.ofNat (48 + n) else UInt8.ofNat (87 + n)
/-- The escape of an ASCII byte. -/
def escT (x : Nat) : List UInt8 :=
  if x = 34 then [92, 34] else if x = 92 then [92, 92] else if x = 8 then [92, 98] else if x = 12 then [92, 102] else if x = 10 then [92, 110] else if x = 13 then [92, 114] else if x = 9 then [92, 116]
  else [92, 117, 48, 48, hexD (x / 16), hexD (x % 16)]
def plainB (x : Nat) : Prop := 32 ≤ x ∧ x ≤ 126 ∧ x ≠ 34 ∧ x ≠ 92
instance (x : Nat) : Decidable (plainB x) := by unfold plainB; infer_instance
def at0 (s : ByteArray) (i : Nat) : Nat := (s.get! i).toNat
def dec (s : ByteArray) (i : Nat) : Nat × Nat := Lib.decodeGo (s.extract i s.size)
def bad6 : List UInt8 := [92, 117, 102, 102, 102, 100]
/-- What a round writes (now or later), and how many bytes it takes. -/
def tok (s : ByteArray) (i : Nat) : List UInt8 × Nat :=
  if at0 s i < 128 then (if plainB (at0 s i) then ((s.extract i (i + 1)).data.toList, 1) else (escT (at0 s i), 1))
  else if (dec s i).1 = 65533 ∧ (dec s i).2 = 1 then (bad6, 1) else ((s.extract i (i + (dec s i).2)).data.toList, (dec s i).2)
def st (s : ByteArray) : Nat → Nat × List UInt8
  | 0 => (0, [])
  | k + 1 => if (st s k).1 < s.size then ((st s k).1 + (tok s (st s k).1).2, (st s k).2 ++ (tok s (st s k).1).1) else st s k
def encT (s : ByteArray) : List UInt8 := (st s s.size).2
theorem dec_bd (s : ByteArray) (i : Nat) (h : i < s.size) : 1 ≤ (dec s i).2 ∧ i + (dec s i).2 ≤ s.size := by
  have hz : (s.extract i s.size).size = s.size - i := by simp [ByteArray.size_extract]
  have e : dec s i = Utf8.decode (s.extract i s.size) 0 := by unfold dec Lib.decodeGo; rw [if_neg (by omega)]
  have h1 := Lib.decode_width_pos (s.extract i s.size) 0 (by omega)
  have h2 := Lib.width_le (s.extract i s.size) (by omega)
  rw [e]; omega
theorem tok_bd (s : ByteArray) (i : Nat) (h : i < s.size) : 1 ≤ (tok s i).2 ∧ i + (tok s i).2 ≤ s.size := by
  have := dec_bd s i h
  unfold tok
  split
  · split <;> (simp only; omega)
  · split
    · simp only; omega
    · simp only; omega
theorem st_le (s : ByteArray) : ∀ k, (st s k).1 ≤ s.size
  | 0 => Nat.zero_le _
  | k + 1 => by
    unfold st
    split
    · rename_i h; exact (tok_bd s _ h).2
    · exact st_le s k
theorem st_ge (s : ByteArray) : ∀ k, k ≤ (st s k).1 ∨ s.size ≤ (st s k).1
  | 0 => Or.inl (Nat.le_refl _)
  | k + 1 => by
    unfold st
    split
    · rename_i h
      have := (tok_bd s _ h).1
      rcases st_ge s k with h' | h'
      · exact Or.inl (by simp only; omega)
      · omega
    · rename_i h; exact Or.inr (by omega)
theorem st_stop (s : ByteArray) (k : Nat) (h : ¬ (st s k).1 < s.size) : ∀ d, st s (k + d) = st s k
  | 0 => rfl
  | d + 1 => by
    have ih := st_stop s k h d
    show st s (k + d + 1) = _
    rw [st, ih, if_neg h]
theorem st_mono (s : ByteArray) (k : Nat) : ∀ d, (st s k).2.length ≤ (st s (k + d)).2.length
  | 0 => Nat.le_refl _
  | d + 1 => by
    refine Nat.le_trans (st_mono s k d) ?_
    show _ ≤ (st s (k + d + 1)).2.length
    rw [st]
    split
    · simp only [List.length_append]; omega
    · exact Nat.le_refl _
theorem st_end (s : ByteArray) (k : Nat) (h : ¬ (st s k).1 < s.size) : (st s k).2 = encT s := by
  have h2 : ¬ (st s s.size).1 < s.size := by
    rcases st_ge s s.size with h' | h' <;> omega
  unfold encT
  rcases Nat.le_total k s.size with hk | hk
  · obtain ⟨d, hd⟩ := Nat.exists_eq_add_of_le hk
    rw [hd, st_stop s k h d]
  · obtain ⟨d, hd⟩ := Nat.exists_eq_add_of_le hk
    rw [hd, st_stop s s.size h2 d]
theorem st_len (s : ByteArray) (k : Nat) : (st s k).2.length ≤ (encT s).length := by
  have h2 : ¬ (st s s.size).1 < s.size := by
    rcases st_ge s s.size with h' | h' <;> omega
  unfold encT
  rcases Nat.le_total k s.size with hk | hk
  · obtain ⟨d, hd⟩ := Nat.exists_eq_add_of_le hk
    rw [hd]; exact st_mono s k d
  · obtain ⟨d, hd⟩ := Nat.exists_eq_add_of_le hk
    rw [hd, st_stop s s.size h2 d]; exact Nat.le_refl _

theorem ext_join (s : ByteArray) (a b c : Nat) (h1 : a ≤ b) (h2 : b ≤ c) (h3 : c ≤ s.size) : (s.extract a b).data.toList ++ (s.extract b c).data.toList = (s.extract a c).data.toList := by
  rw [Lib.extract_data, Lib.extract_data, Lib.extract_data]
  have e : s.data.toList.drop b = (s.data.toList.drop a).drop (b - a) := by rw [List.drop_drop]; congr 1; omega
  rw [e]
  have e2 : c - a = (b - a) + (c - b) := by omega
  rw [e2, List.take_add]
theorem ext_nil (s : ByteArray) (a : Nat) : (s.extract a a).data.toList = [] := by rw [Lib.extract_data]; simp
/-- The loop's word: at place i, written up to start. -/
def Enc (s : ByteArray) (l : List UInt8) (i start : Nat) (L : List UInt8) : Prop :=
  ∃ (k : Nat) (P : List UInt8), (st s k).1 = i ∧ start ≤ i ∧ L = l ++ [34] ++ P ∧ P ++ (s.extract start i).data.toList = (st s k).2
theorem Enc.start (s : ByteArray) (l : List UInt8) : Enc s l 0 0 (l ++ [34]) := ⟨0, [], rfl, Nat.le_refl _, by simp, by rw [ext_nil]; rfl⟩
theorem Enc.le {s : ByteArray} {l L : List UInt8} {i start : Nat} (h : Enc s l i start L) : start ≤ i ∧ i ≤ s.size := by
  obtain ⟨k, P, h1, h2, _⟩ := h
  exact ⟨h2, h1 ▸ st_le s k⟩
theorem Enc.plain {s : ByteArray} {l L : List UInt8} {i start n : Nat} (h : Enc s l i start L) (hi : i < s.size) (ht : tok s i = ((s.extract i (i + n)).data.toList, n)) : Enc s l (i + n) start L := by
  obtain ⟨k, P, h1, h2, h3, h4⟩ := h
  have hb := (tok_bd s i hi).2
  rw [ht] at hb
  refine ⟨k + 1, P, ?_, by omega, h3, ?_⟩
  · rw [st, h1, if_pos hi, ht]
  · rw [st, h1, if_pos hi, ht, ← ext_join s start i (i + n) h2 (by omega) hb, ← List.append_assoc, h4]
theorem Enc.flush {s : ByteArray} {l L : List UInt8} {i start n : Nat} {e : List UInt8} (h : Enc s l i start L) (hi : i < s.size) (ht : tok s i = (e, n)) : Enc s l (i + n) (i + n) (L ++ (s.extract start i).data.toList ++ e) := by
  obtain ⟨k, P, h1, h2, rfl, h4⟩ := h
  refine ⟨k + 1, P ++ (s.extract start i).data.toList ++ e, ?_, Nat.le_refl _, by simp only [List.append_assoc], ?_⟩
  · rw [st, h1, if_pos hi, ht]
  · rw [st, h1, if_pos hi, ht, ext_nil, List.append_nil, h4]
theorem Enc.flush0 {s : ByteArray} {l L : List UInt8} {i n : Nat} {e : List UInt8} (h : Enc s l i i L) (hi : i < s.size) (ht : tok s i = (e, n)) : Enc s l (i + n) (i + n) (L ++ e) := by
  have := h.flush hi ht
  rwa [ext_nil, List.append_nil] at this
theorem Enc.done {s : ByteArray} {l L : List UInt8} {i start : Nat} (h : Enc s l i start L) (hi : ¬ i < s.size) : i = s.size ∧ L ++ (s.extract start s.size).data.toList = l ++ [34] ++ encT s := by
  have hle := h.le.2
  obtain ⟨k, P, h1, h2, rfl, h4⟩ := h
  obtain rfl : i = s.size := by omega
  refine ⟨rfl, ?_⟩
  rw [List.append_assoc, h4, st_end s k (by rw [h1]; exact hi)]
theorem Enc.len {s : ByteArray} {l L : List UInt8} {i start : Nat} (h : Enc s l i start L) : L.length + (s.extract start i).data.toList.length ≤ l.length + 1 + (encT s).length := by
  obtain ⟨k, P, h1, h2, rfl, h4⟩ := h
  have := st_len s k
  rw [← h4] at this
  simp only [List.length_append, List.length_cons, List.length_nil] at this ⊢
  omega
theorem Enc.len2 {s : ByteArray} {l L : List UInt8} {i start n : Nat} {e : List UInt8} (h : Enc s l i start L) (hi : i < s.size) (ht : tok s i = (e, n)) : L.length + (s.extract start i).data.toList.length + e.length ≤ l.length + 1 + (encT s).length := by
  have := (h.flush hi ht).len
  rw [ext_nil] at this
  simp only [List.length_append, List.length_nil] at this
  omega
end Go.Proofs.YtinhadafmlplaaaDoor
