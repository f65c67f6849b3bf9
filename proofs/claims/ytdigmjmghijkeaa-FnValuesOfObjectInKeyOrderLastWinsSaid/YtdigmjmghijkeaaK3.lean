/- The doubled list; the walk of FnKeysIgnoreOrderAndRepeats: it returns true, whatever the argument. -/
import Derived.Test.YtdigmjmghijkeaaK4
set_option linter.unusedVariables false
namespace Go.Proofs.Ytdigmjmghijkeaa
open Go.RowKit

open Go.Maps Go.Sort
open Go.Proofs (encStr)
theorem info_parts9 {P : Program} {t : TypeId} {z : Value} {a b : Nat} (h : (P.info? t).map (fun i => (i.zero, i.size, i.bytes)) = some (some z, a, b)) :
    ∃ i, P.info? t = some i ∧ i.zero = some z ∧ i.size = a ∧ i.bytes = b := by
  cases e : P.info? t with
  | none => rw [e] at h; cases h
  | some i => rw [e] at h; simp at h; exact ⟨i, rfl, h.1, h.2.1, h.2.2⟩
/-- Reversed, then as it is. -/
def dblF (f : Nat → ByteArray) (n j : Nat) : ByteArray := if j < n then f (n - 1 - j) else f (j - n)
def vals (f : Nat → ByteArray) (k : Nat) : List Value := (List.range k).map fun j => Value.string (f j)
theorem vals_len (f : Nat → ByteArray) (k : Nat) : (vals f k).length = k := by simp [vals]
theorem vals_next (f : Nat → ByteArray) (k : Nat) : vals f (k + 1) = vals f k ++ [.string (f k)] := by simp [vals, List.range_succ]
theorem dbl_has (f : Nat → ByteArray) (n : Nat) (x : List UInt8) : has (putD (dblF f n) (fun _ => .nil) (n + n)) (.string x) = true ↔ has (putD f (fun _ => .nil) n) (.string x) = true := by
  rw [has_putD, has_putD]
  constructor
  · rintro ⟨j, hj, e⟩
    unfold dblF at e
    by_cases h : j < n
    · rw [if_pos h] at e; exact ⟨n - 1 - j, by omega, e⟩
    · rw [if_neg h] at e; exact ⟨j - n, by omega, e⟩
  · rintro ⟨j, hj, e⟩
    refine ⟨n + j, by omega, ?_⟩
    unfold dblF
    rw [if_neg (by omega), Nat.add_sub_cancel_left]; exact e
theorem dbl_size {f : Nat → ByteArray} {n : Nat} (hz : SzOk f n) : SzOk (dblF f n) (n + n) := by
  intro j hj
  unfold dblF
  by_cases h : j < n
  · rw [if_pos h]; exact hz _ (by omega)
  · rw [if_neg h]; exact hz _ (by omega)
theorem bs_has {f : Nat → ByteArray} {n : Nat} {R : List (List UInt8)} (h : KeysAre (putD f (fun _ => .nil) n) R) (x : List UInt8) : has (putD (bs R) (fun _ => .nil) R.length) (.string x) = true ↔ has (putD f (fun _ => .nil) n) (.string x) = true := by
  rw [has_putD, ← h.2.2 x]
  constructor
  · rintro ⟨j, hj, e⟩
    rw [← e, bs_list]
    simp only [List.getD, List.getElem?_eq_getElem hj, Option.getD_some]
    exact List.getElem_mem hj
  · intro hx
    obtain ⟨m, hm, e⟩ := List.getElem_of_mem hx
    exact ⟨m, hm, by rw [bs_list]; simp [List.getD, hm, e]⟩
/-- An owned row of strings, as a slice of strings. -/
theorem owns_strIn {w : World} {B m : Nat} {v : Value} {F : Nat → ByteArray} (h : w.ownsRow B 9 1 v m (vals F m)) : ∃ a c, v = .slice a m c ∧ StrIn w a m c F := by
  rcases h.2 with ⟨rfl, h0⟩ | ⟨g, cap, cur, rfl, _, hb, _, _, _, hx⟩
  · exact ⟨none, 0, by rw [h0], Or.inl ⟨rfl, h0, rfl⟩⟩
  · refine ⟨some ⟨g, 0, none⟩, cap, rfl, Or.inr ⟨_, rfl, fun j hj => ?_⟩⟩
    rw [Go.WideShapes.add_plain, Nat.zero_add]
    have h1 : (cur.toList.take (m * 1))[j]? = (vals F m)[j]? := by rw [hx]
    rw [List.getElem?_take, if_pos (by omega)] at h1
    simp only [World.cell?, hb]
    rw [← Array.getElem?_toList, h1]
    simp [vals, hj]

set_option maxRecDepth 100000 in
set_option maxHeartbeats 4000000 in
theorem law3 (a : Option Addr) (n c : Nat) (f : Nat → ByteArray) (w : World) (mn : n ≤ 9223372036854775807) (hz : SzOk f n) (h : StrIn w a n c f) :
    Calls Try.prog 3 #[.slice a n c] w fun e w' => e = .returned (.bool true) ∧ Below w.heap.size w w' := by
  have ZB := Lib.hid (zzb3 a n c f w mn hz h)
  have HZ := Lib.hid hz
  clear hz
  obtain ⟨i0, hi, hz0, hz1, hz2⟩ := info_parts9 Try.info9s
  have HI := Lib.hid hi
  have HZ0 := Lib.hid hz0
  have HZ1 := Lib.hid hz1
  have HZ2 := Lib.hid hz2
  clear hi hz0 hz1 hz2
  go_enter Try.func3, Try.ntmps3
  go_wp2_with fail
  refine ZB.out.mono ?_
  rintro e w1 ⟨⟨r, rfl, hr⟩, rfl⟩
  clear ZB
  cases r
  · go_wp2_with fail
    go_ret
    exact ⟨rfl, Below.refl _ _⟩
  have HR := Lib.hid (hr rfl)
  clear hr
  by_cases hn : n ≤ 4096
  rotate_left
  · have h1 := HR.out
    have h2 : 4096 < n := by omega
    go_wp2_with fail
    go_ret
    exact ⟨rfl, Below.refl _ _⟩
  have hn1 : n ≤ 1048576 := by omega
  go_wp2_with fail
  refine (strBytes a n c f _ HR.out h).mono ?_
  rintro e w1 ⟨⟨t, rfl, t1, t2⟩, rfl⟩
  by_cases ht : t ≤ 1048576
  rotate_left
  · go_wp2_with fail
    go_ret
    exact ⟨rfl, Below.refl _ _⟩
  clear t2 t1
  go_wp2_with fail
  refine (sclone_any a n c f _ hn1 h).mono ?_
  rintro e w1 ⟨⟨a', rfl, kS⟩, b1⟩
  clear h
  have HKS := Lib.hid kS
  have HB1 := Lib.hid b1
  clear kS b1
  go_wp2_with (at_make; go_loud (refine wpList_make_own _ rfl _ _ 22 rfl w1.heap.size 9 i0 (.string ByteArray.empty) 1 Try.underlying22 HI.out HZ0.out HZ1.out _ _ _ (n + n) rfl rfl (by omega) (by rw [HZ2.out]; omega) (by unfold maxLen; omega) (Nat.le_refl _) ?_))
  intro w2 hrow2 hg2
  have B2 : Below w1.heap.size w1 w2 := (Below.refl _ _).grown hg2 (Nat.le_refl _) (fun j hj => by cases hj)
  clear hg2
  go_wp2_with fail
  go_loopw [3, 4] (fun v i wr => ∃ k : Nat, k ≤ n ∧ i = .int .i64 ((n : Int) - 1 - k) ∧ wr.ownsRow w1.heap.size 9 1 v k (vals (dblF f n) k) ∧ Below w1.heap.size w1 wr) (fun _ i _ => (intOf i + 1).toNat)
  case atStart => exact ⟨0, Nat.zero_le _, by go_num, by simpa [vals] using hrow2, B2⟩
  case round =>
    clear hrow2 B2
    obtain ⟨k, hk, rfl, hrow, hb⟩ := hrel
    by_cases hlt : k < n
    · rcases HKS.out.below hb with ⟨_, h0, _⟩ | ⟨x, rfl, hx⟩
      · omega
      have hc : wr.cell? (x.add (n - 1 - k)) = some (.string (f (n - 1 - k))) := hx (n - 1 - k) (by omega)
      have i0' : (0 : Int) ≤ (n : Int) - 1 - k := by omega
      have i1 : (n : Int) - 1 - k < n := by omega
      have it : ((n : Int) - 1 - k).toNat = n - 1 - k := by omega
      have HROW := Lib.hid hrow
      have HBB := Lib.hid hb
      have HSZ := Lib.hid hb.size
      clear hx hrow hb
      go_wp2_with (at_builtin; go_loud (refine wpList_append_own _ rfl _ _ 22 rfl w1.heap.size 9 i0 (.string ByteArray.empty) 1 16 Try.underlying22 HI.out HZ0.out HZ1.out HZ2.out rfl (by decide) _ _ _ rfl (HROW.out.alloc _) ⟨wr.heap.size, 0, none⟩ 1 1 [.string (f (n - 1 - k))] rfl rfl (cell_one_new _ _ _) (by simp [Value.oneCell']) ?c3 ?c4 ?c5 ?_))
      case c3 => unfold maxLen; omega
      case c4 => omega
      case c5 => have := HSZ.out; simp; omega
      intro v' w4 hown' hgrow _
      go_wp2_with fail
      go_roundw
      case rel =>
        refine ⟨k + 1, by omega, by go_num, ?_, (HBB.out.alloc HSZ.out _).grown hgrow (by have := HSZ.out; simp; omega) (fun j hj => (HROW.out.lt j hj).1)⟩
        rw [vals_next]
        have e : dblF f n k = f (n - 1 - k) := if_pos hlt
        rw [e]; exact hown'
      case measure => simp [intOf]; omega
    · obtain rfl : n = k := by omega
      go_wp2_with fail
      go_loopw [3, 5] (fun v i wz => ∃ k : Nat, k ≤ n ∧ i = .int .i64 k ∧ wz.ownsRow w1.heap.size 9 1 v (n + k) (vals (dblF f n) (n + k)) ∧ Below w1.heap.size w1 wz) (fun _ i _ => n - (intOf i).toNat)
      case atStart => exact ⟨0, Nat.zero_le _, rfl, hrow, hb⟩
      case round =>
        clear hrow hb hlt hk
        obtain ⟨k, hk, rfl, hrow, hb⟩ := hrel
        by_cases hlt : k < n
        · rcases HKS.out.below hb with ⟨_, h0, _⟩ | ⟨x, rfl, hx⟩
          · omega
          have hc := hx k hlt
          have HROW := Lib.hid hrow
          have HBB := Lib.hid hb
          have HSZ := Lib.hid hb.size
          clear hx hrow hb
          go_wp2_with (at_builtin; go_loud (refine wpList_append_own _ rfl _ _ 22 rfl w1.heap.size 9 i0 (.string ByteArray.empty) 1 16 Try.underlying22 HI.out HZ0.out HZ1.out HZ2.out rfl (by decide) _ _ _ rfl (HROW.out.alloc _) ⟨wr.heap.size, 0, none⟩ 1 1 [.string (f k)] rfl rfl (cell_one_new _ _ _) (by simp [Value.oneCell']) ?d3 ?d4 ?d5 ?_))
          case d3 => unfold maxLen; omega
          case d4 => omega
          case d5 => have := HSZ.out; simp; omega
          intro v' w4 hown' hgrow _
          go_wp2_with fail
          go_roundw
          case rel =>
            refine ⟨k + 1, by omega, by go_num, ?_, (HBB.out.alloc HSZ.out _).grown hgrow (by have := HSZ.out; simp; omega) (fun j hj => (HROW.out.lt j hj).1)⟩
            rw [← Nat.add_assoc, vals_next]
            have e : dblF f n (n + k) = f k := by unfold dblF; rw [if_neg (by omega), Nat.add_sub_cancel_left]
            rw [e]; exact hown'
          case measure => simp [intOf]; omega
        · obtain rfl : n = k := by omega
          obtain ⟨ad, cd, rfl, kD⟩ := owns_strIn hrow
          have HK1 := Lib.hid (keysOf_any a' n n f wr (by omega) HZ.out (HKS.out.below hb))
          have HKD := Lib.hid kD
          have HBR := Lib.hid (HB1.out.trans (hb.mono HB1.out.size))
          clear kD hrow hb hlt hk
          go_wp2_with fail
          refine HK1.out.mono ?_
          rintro e x1 ⟨g1, R1, rfl, r1, k1, l1, b1⟩
          have HR1 := Lib.hid r1
          have HA1 := Lib.hid k1
          have HX1 := Lib.hid b1
          have HK2 := Lib.hid (keysOf_any ad (n + n) cd (dblF f n) x1 (by omega) (dbl_size HZ.out) (HKD.out.below b1))
          clear r1 k1 b1 HK1
          go_wp2_with fail
          refine HK2.out.mono ?_
          rintro e x2 ⟨g2, R2, rfl, r2, k2, l2, b2⟩
          obtain rfl : R1 = R2 := keys_unique HA1.out k2 (fun x => (dbl_has f n x).symm)
          have HR2 := Lib.hid r2
          have HX2 := Lib.hid b2
          have HR12 := Lib.hid (HR1.out.below b2)
          have HK3 := Lib.hid (keysOf_any (some ⟨g1, 0, none⟩) R1.length R1.length (bs R1) x2 (by omega) (key_size HA1.out HZ.out) (HR12.out.strIn _))
          clear r2 k2 b2 HK2
          go_wp2_with fail
          refine HK3.out.mono ?_
          rintro e x3 ⟨g3, R3, rfl, r3, k3, l3, b3⟩
          obtain rfl : R1 = R3 := keys_unique HA1.out k3 (fun x => (bs_has HA1.out x).symm)
          have HS1 := Lib.hid (same_yes (some ⟨g1, 0, none⟩) (some ⟨g2, 0, none⟩) R1.length R1.length R1.length (bs R1) x3 (by omega) ((HR12.out.below b3).strIn _) ((HR2.out.below b3).strIn _))
          have HR13 := Lib.hid (HR12.out.below b3)
          have HR33 := Lib.hid r3
          have HX3 := Lib.hid b3
          clear r3 k3 b3 HK3
          go_wp2_with fail
          refine HS1.out.mono ?_
          rintro e x4 ⟨rfl, b4⟩
          have HS2 := Lib.hid (same_yes (some ⟨g1, 0, none⟩) (some ⟨g3, 0, none⟩) R1.length R1.length R1.length (bs R1) x4 (by omega) ((HR13.out.below b4).strIn _) ((HR33.out.below b4).strIn _))
          have HX4 := Lib.hid b4
          clear b4 HS1
          go_wp2_with fail
          refine HS2.out.mono ?_
          rintro e x5 ⟨rfl, b5⟩
          have HX5 := Lib.hid b5
          clear b5 HS2
          go_wp2_with fail
          go_ret
          have c1 := HBR.out.trans (HX1.out.mono HBR.out.size)
          have c2 := c1.trans (HX2.out.mono c1.size)
          have c3 := c2.trans (HX3.out.mono c2.size)
          have c4 := c3.trans (HX4.out.mono c3.size)
          exact ⟨rfl, c4.trans (HX5.out.mono c4.size)⟩
end Go.Proofs.Ytdigmjmghijkeaa
