/- values of an object; the walk of FnValuesOfObjectInKeyOrderLastWins: it returns true, whatever the arguments. -/
import Derived.Test.YtdigmjmghijkeaaK3
set_option linter.unusedVariables false
namespace Go.Proofs.Ytdigmjmghijkeaa
open Go.RowKit

open Go.Maps Go.Sort
open Go.Proofs (encStr)
@[go_sem] theorem as43_45 (v : Value) (w : World) : (Instr.typeAssert (.iface 43 v) 20 45 true).run Try.prog w = .ok (.tuple #[.slice none 0 0, .bool false]) w := by kernel_rfl
@[go_sem] theorem as43_43 (v : Value) (w : World) : (Instr.typeAssert (.iface 43 v) 20 43 true).run Try.prog w = .ok (.tuple #[v, .bool true]) w := by kernel_rfl
theorem anyR_inv {v : Value} {c : Int} {ps : List MemPlace} (h : anyR v = some (.lit (.int .i64 c), ps)) : v = .iface 3 (.int .i64 c) := by
  unfold anyR at h
  split at h
  · simp at h
  · simp at h; rw [h.1]
  · simp at h
theorem below_alloc (w : World) (o : Obj) : Below w.heap.size w (w.alloc o) := (Below.refl _ w).alloc (Nat.le_refl _) _
theorem look (w : World) (b n : Nat) (D : DataW Unit) (hown : Owns w b n D) (s : ByteArray) (hs : s.size ≤ 9223372036854775807) (c : Int) (hc : D.atKey (.string s.data.toList) .nil = .lit (.int .i64 c)) :
    (Instr.lookup 43 (.map (some b)) (.string s) false).run Try.prog w = .ok (.iface 3 (.int .i64 c)) w := by
  obtain ⟨v, ps, hrun, hv⟩ := World.ownsMap.lookup hown law9 Try.underlying43 (zeroE w) (zd := .nil) (zp := []) rfl (keyOf_str9 s hs)
  rw [hc] at hv
  rw [hrun, anyR_inv hv]
/-- What values answers. -/
def ValPost (w : World) (D : DataW Unit) (vf : List UInt8 → Int) (e : Ending) (w' : World) : Prop :=
  ∃ (g : Nat) (R : List (List UInt8)), e = .returned (.tuple #[.slice (some ⟨g, 0, none⟩) R.length R.length, .bool true]) ∧ w'.rowIs g 20 R.length (fun j => .iface 3 (.int .i64 (vf (R.getD j [])))) ∧ KeysAre D R ∧ R.length = Maps.size D ∧ Below w.heap.size w w'
theorem keySize {D : DataW Unit} {R : List (List UInt8)} {w : World} {b n : Nat} (h : KeysAre D R) (hown : Owns w b n D) (j : Nat) (hj : j < R.length) : (bs R j).size ≤ 9223372036854775807 := by
  have hx : R[j] ∈ R := List.getElem_mem hj
  have hh := (h.2.2 _).1 hx
  obtain ⟨es, rfl, hko⟩ := World.ownsMap.keysOf hown
  rw [has_eq, List.any_eq_true] at hh
  obtain ⟨p, hp, hs⟩ := hh
  obtain ⟨v, hv⟩ := hko p hp
  obtain ⟨y, _, hy, hl⟩ := Maps.keyOf_str Try.underlying9 hv
  rw [hy] at hs
  have e : y = R[j] := by simpa [Lit.sameKey] using hs
  rw [Lib.size_eq, bs_list]
  simp only [List.getD, List.getElem?_eq_getElem hj, Option.getD_some]
  rw [← e]; unfold maxLen at hl; exact hl
set_option maxRecDepth 100000 in
set_option maxHeartbeats 2000000 in
theorem values_map (b n : Nat) (D0 : DataW Unit) (vf : List UInt8 → Int) (w : World) (hown : Owns w b n D0) (hmax : Maps.size D0 ≤ 8192) (hvf : ∀ x, has D0 (.string x) = true → D0.atKey (.string x) .nil = .lit (.int .i64 (vf x))) :
    Calls Try.prog 27 #[.iface 43 (.map (some b))] w (ValPost w D0 vf) := by
  obtain ⟨N, hN⟩ : ∃ N, Maps.size D0 = N := ⟨_, rfl⟩
  have hN' : N ≤ 8192 := by omega
  have HN := Lib.hid hN
  have hmk := run_make_row' (P := Try.prog) 45 20 .nilIface 16 Try.underlying45 Try.info20 rfl .i64 .i64 N (by omega) (by omega)
  have HOW := Lib.hid hown
  have HV := Lib.hid hvf
  clear hown hmax hvf
  go_enter Try.func27, Try.ntmps27
  go_wp2_with (at_len; refine wpList_len_own _ rfl _ 43 rfl 9 20 Try.underlying43 _ b n _ rfl HOW.out ?_)
  have HK := Lib.hid (keys_any b n D0 (w.alloc (.cells (madeCells #[.nilIface] N) 20)) (HOW.out.alloc _) (by rw [hN]; exact hN'))
  clear hmk
  refine HK.out.mono ?_
  rintro e w2 ⟨R, rfl, hr, hk, hl, b2⟩
  have hlN : R.length = N := hl.trans hN
  have HR := Lib.hid hr
  have HKA := Lib.hid hk
  have HL := Lib.hid hl
  have HB2 := Lib.hid b2
  have HE := Lib.hid (show (w.alloc (.cells (madeCells #[.nilIface] N) 20)).heap.size = w.heap.size + 1 by simp)
  have HOW2 := Lib.hid (show Owns w2 b n D0 from (HOW.out.alloc _).kept (row := none) ⟨b2.os, b2.tape, b2.output, b2.size, fun i hi _ => b2.block i hi⟩ (by simp))
  clear hr hk hl b2 HK hN HN
  obtain rfl := hlN
  go_wp2_with fail
  have HROW0 : w2.rowIs w.heap.size 20 R.length (fun _ => .nilIface) := (World.rowIs_made w .nilIface R.length 20).of_block (HB2.out.block _ (by simp))
  have HR0 : RowL w2 (w.heap.size + 1) R := by have := HR.out; rw [HE.out] at this; exact this
  have BW2 : Below w.heap.size w w2 := (below_alloc w _).trans (HB2.out.mono (by simp))
  have hbw : b < w.heap.size := HOW.out.lt
  go_loopw [24] (fun i wr => ∃ k : Nat, k ≤ R.length ∧ i = .int .i64 k ∧ wr.rowIs w.heap.size 20 R.length (fun j => if j < k then .iface 3 (.int .i64 (vf (R.getD j []))) else .nilIface) ∧ Owns wr b n D0 ∧ RowL wr (w.heap.size + 1) R ∧ Below w.heap.size w wr) (fun i _ => R.length - (intOf i).toNat)
  case atStart => exact ⟨0, Nat.zero_le _, rfl, HROW0.congr (fun j _ => by simp), HOW2.out, HR0, BW2⟩
  case round =>
    clear HROW0 HR0 BW2
    obtain ⟨k, hk, rfl, hrow, how, hrl, hb⟩ := hrel
    by_cases hlt : k < R.length
    · have hc : wr.cell? ⟨w.heap.size + 1, k, none⟩ = some (.string (bs R k)) := hrl.cell hlt
      have hd := hrow.cell hlt
      have hf := hrow.frozen k
      rw [if_neg (by omega)] at hd
      have hin : has D0 (.string (bs R k).data.toList) = true := by
        rw [bs_list, ← HKA.out.2.2]
        simp only [List.getD, List.getElem?_eq_getElem hlt, Option.getD_some]
        exact List.getElem_mem hlt
      have hlk := look wr b n D0 how (bs R k) (keySize HKA.out HOW.out k hlt) _ (HV.out _ hin)
      have HROW := Lib.hid hrow
      have HOWR := Lib.hid how
      have HRL := Lib.hid hrl
      have HBR := Lib.hid hb
      clear hrow how hrl hb hin
      go_wp2_with fail
      go_roundw
      case rel =>
        have hg := setCell_grown wr ⟨w.heap.size, k, none⟩ (.iface 3 (.int .i64 (vf (bs R k).data.toList)))
        refine ⟨k + 1, by omega, by go_num, (HROW.out.set k (.iface 3 (.int .i64 (vf (bs R k).data.toList)))).congr (fun j hj => ?_), HOWR.out.kept hg (by simp; omega), HRL.out.of_block (hg.block _ HRL.out.lt (by simp)), HBR.out.setCell (p := ⟨w.heap.size, k, none⟩) (Nat.le_refl _) _⟩
        by_cases e : j = k
        · subst e; rw [if_pos rfl, if_pos (by omega), bs_list]
        · rw [if_neg e, upto e]
      case measure => simp [intOf]; omega
    · obtain rfl : R.length = k := by omega
      have HROW := Lib.hid hrow
      clear hrow how hrl
      go_wp2_with fail
      go_ret2
      exact ⟨w.heap.size, R, rfl, HROW.out.congr (fun j hj => by rw [if_pos hj]), HKA.out, HL.out, hb⟩

/-- The place of the last x among the first n; -1: none. -/
def lastZ (f : Nat → ByteArray) (x : List UInt8) : Nat → Int
  | 0 => -1
  | k + 1 => if (f k).data.toList = x then (k : Int) else lastZ f x k
theorem lastZ_lo (f : Nat → ByteArray) (x : List UInt8) : ∀ n, -1 ≤ lastZ f x n ∧ lastZ f x n < n
  | 0 => by simp [lastZ]
  | k + 1 => by
    have := lastZ_lo f x k
    unfold lastZ
    by_cases h : (f k).data.toList = x
    · rw [if_pos h]; omega
    · rw [if_neg h]; omega
theorem val_at (f : Nat → ByteArray) (u : Nat → DataW Unit) (x : List UInt8) (z : DataW Unit) : ∀ n, has (putD f u n) (.string x) = true → 0 ≤ lastZ f x n ∧ (putD f u n).atKey (.string x) z = u (lastZ f x n).toNat
  | 0, h => by simp [putD, has] at h
  | k + 1, h => by
    by_cases e : (f k).data.toList = x
    · subst e
      unfold lastZ
      rw [if_pos rfl, putD, atKey_put_same (isMap_putD f u k) (strKey _)]
      exact ⟨by omega, by simp⟩
    · unfold lastZ
      rw [if_neg e, putD, atKey_put_other (by simpa using fun h => e h.symm)]
      rw [putD, has_put_other (by simpa using fun h => e h.symm)] at h
      exact val_at f u x z k h
def valU (v : Nat → Int) (k : Nat) : DataW Unit := .lit (.int .i64 (v k))
def vfOf (f : Nat → ByteArray) (v : Nat → Int) (n : Nat) (x : List UInt8) : Int := v (lastZ f x n).toNat
def ObjPost (w : World) (f : Nat → ByteArray) (v : Nat → Int) (n : Nat) (e : Ending) (w' : World) : Prop :=
  ∃ (g : Nat) (R : List (List UInt8)), e = .returned (.tuple #[.slice (some ⟨g, 0, none⟩) R.length R.length, .bool true]) ∧ w'.rowIs g 3 R.length (fun j => .int .i64 (vfOf f v n (R.getD j []))) ∧ KeysAre (putD f (valU v) n) R ∧ R.length ≤ n ∧ Below w.heap.size w w'
set_option maxRecDepth 100000 in
set_option maxHeartbeats 2000000 in
theorem zz_obj (a : Option Addr) (n c : Nat) (f : Nat → ByteArray) (av : Option Addr) (cv : Nat) (v : Nat → Int) (w : World) (hn : n ≤ 4096) (hz : SzOk f n) (h : StrIn w a n c f) (hv : IntIn w av n cv v) :
    Calls Try.prog 17 #[.slice a n c, .slice av n cv] w (ObjPost w f v n) := by
  have hmm := fun (m : Int) (W : World) => run_makeMap_hint (P := Try.prog) 43 9 20 Try.underlying43 .i64 m W
  have HZ := Lib.hid hz
  clear hz
  go_enter Try.func17, Try.ntmps17
  go_wp2_with fail
  clear hmm
  go_loopw [16] (fun i wr => ∃ k : Nat, k ≤ n ∧ i = .int .i64 k ∧ Owns wr w.heap.size k (putD f (valU v) k) ∧ Below w.heap.size w wr) (fun i _ => n - (intOf i).toNat)
  case atStart => exact ⟨0, Nat.zero_le _, rfl, World.ownsMap_made _ _ _ _, below_alloc _ _⟩
  case round =>
    obtain ⟨k, hk, rfl, hown, hb⟩ := hrel
    by_cases hlt : k < n
    · rcases h with ⟨_, h0, _⟩ | ⟨x, rfl, hx⟩
      · omega
      rcases hv with ⟨_, h0, _⟩ | ⟨y, rfl, hy⟩
      · omega
      have hc : wr.cell? (x.add k) = some (.string (f k)) := (hb.cell (block_lt_of_cell (hx k hlt))).trans (hx k hlt)
      have hcv : wr.cell? (y.add k) = some (.int .i64 (v k)) := (hb.cell (block_lt_of_cell (hy k hlt))).trans (hy k hlt)
      have hkey := keyOf_str9 (f k) (HZ.out k hlt)
      have HX := Lib.hid hx
      have HY := Lib.hid hy
      have HB := Lib.hid hb
      clear hx hb hy
      go_wp2_with (at_mapUpdate; go_loud (refine wpList_mapUpdate_own _ rfl _ _ _ 43 rfl 9 20 law9 Try.underlying43 anyR w.heap.size k _ rfl hown (by unfold maxLen; omega) _ _ _ rfl rfl hkey (valU v k) [] rfl ?_))
      intro w1 hown1 hgrow1
      go_wp2_with fail
      go_roundw
      case rel => exact ⟨k + 1, by omega, by go_num, hown1, HB.out.grown hgrow1 HB.out.size (fun j hj => by cases hj; exact Nat.le_refl _)⟩
      case measure => simp [intOf]; omega
    · obtain rfl : n = k := by omega
      have hs := size_putD _ _ hown
      have HV := Lib.hid (values_map w.heap.size n (putD f (valU v) n) (vfOf f v n) wr hown (by omega) (fun x hx => (val_at f (valU v) x .nil n hx).2))
      have HS := Lib.hid hs
      clear hown hs h hv
      go_wp2_with fail
      refine HV.out.mono ?_
      rintro e w2 ⟨g, R, rfl, hr, hka, hl, b2⟩
      have HL : Hid (R.length ≤ n) := Lib.hid (by have := HS.out; omega)
      have HI := Lib.hid (ints_of g R.length (fun j => vfOf f v n (R.getD j [])) w2 (by have := HL.out; omega) hr)
      have HKA := Lib.hid hka
      clear hr hka hl HV
      go_wp2_with fail
      refine HI.out.mono ?_
      rintro e w3 ⟨rfl, hr3, b3⟩
      have HR3 := Lib.hid hr3
      clear hr3 HI
      go_wp2_with fail
      go_ret2
      have bb := hb.trans (b2.mono hb.size)
      exact ⟨w2.heap.size, R, rfl, HR3.out, HKA.out, HL.out, bb.trans (b3.mono bb.size)⟩

/-- Where the slice of ints was cloned to, it reads alike. -/
theorem cloned_in {w w' : World} {n : Nat} {v : Nat → Int} {e : Ending} (h : Cloned w w' n v e) : ∃ a, e = .returned (.slice a n n) ∧ IntIn w' a n n v := by
  rcases h with ⟨rfl, rfl⟩ | ⟨rfl, hr⟩
  · exact ⟨none, rfl, Or.inl ⟨rfl, rfl, rfl⟩⟩
  · exact ⟨_, rfl, Or.inr ⟨_, rfl, fun j hj => by rw [Go.WideShapes.add_plain, Nat.zero_add]; exact hr.cell hj⟩⟩
theorem IntIn.below {w w' : World} {a : Option Addr} {n c : Nat} {v : Nat → Int} (h : IntIn w a n c v) (hb : Below w.heap.size w w') : IntIn w' a n c v := by
  rcases h with h | ⟨x, rfl, hx⟩
  · exact Or.inl h
  · exact Or.inr ⟨x, rfl, fun j hj => (hb.cell (block_lt_of_cell (hx j hj))).trans (hx j hj)⟩
set_option maxRecDepth 100000 in
set_option maxHeartbeats 4000000 in
theorem law5_main (a : Option Addr) (n c : Nat) (f : Nat → ByteArray) (av : Option Addr) (cv : Nat) (v : Nat → Int) (w : World) (hn : n ≤ 4096) (hb0 : n + tot f n + n ≤ 1048576) (hz : SzOk f n) (h : StrIn w a n c f) (hv : IntIn w av n cv v) :
    Calls Try.prog 5 #[.slice a n c, .slice av n cv] w fun e w' => e = .returned (.bool true) ∧ Below w.heap.size w w' := by
  have ZB := Lib.hid (zzb5 a n c f av n cv w (by omega) hz h (by omega))
  have HZ := Lib.hid hz
  clear hz
  go_enter Try.func5, Try.ntmps5
  go_wp2_with fail
  refine ZB.out.mono ?_
  rintro e w1 ⟨⟨r, rfl, hr⟩, rfl⟩
  clear ZB hr
  cases r
  · go_wp2_with fail
    go_ret
    exact ⟨rfl, Below.refl _ _⟩
  go_wp2_with fail
  refine (strBytes a n c f _ (by omega) h).mono ?_
  rintro e w1 ⟨⟨t, rfl, t1, t2⟩, rfl⟩
  clear t2
  by_cases ht : t + 8 * n ≤ 1048576
  rotate_left
  · go_wp2_with fail
    go_ret
    exact ⟨rfl, Below.refl _ _⟩
  go_wp2_with fail
  refine (sclone_any a n c f _ (by omega) h).mono ?_
  rintro e w1 ⟨⟨a', rfl, kS⟩, b1⟩
  have hv1 := hv.below b1
  clear h hv
  go_wp2_with fail
  refine (clone_any av n cv v _ (by omega) hv1).mono ?_
  rintro e w2 ⟨hC, b2⟩
  obtain ⟨av', rfl, kV⟩ := cloned_in hC
  have HKS := Lib.hid (kS.below b2)
  have HKV := Lib.hid kV
  have HB2 := Lib.hid (b1.trans (b2.mono b1.size))
  have HO := Lib.hid (zz_obj a' n n f av' n v w2 hn HZ.out HKS.out kV)
  clear kS kV b1 b2 hv1 hC
  go_wp2_with fail
  refine HO.out.mono ?_
  rintro e w3 ⟨g, R, rfl, hr, hka, hl, b3⟩
  have HR := Lib.hid hr
  have HKA := Lib.hid hka
  have HK := Lib.hid (keysOf_any a' n n f w3 (by omega) HZ.out (HKS.out.below b3))
  have HB3 := Lib.hid b3
  clear hr hka b3 HO
  go_wp2_with fail
  refine HK.out.mono ?_
  rintro e w4 ⟨g2, R2, rfl, hr2, hka2, hl2, b4⟩
  obtain rfl : R = R2 := keys_unique HKA.out hka2 (fun x => by rw [has_putD, has_putD])
  have HKE := Lib.hid (key_out hka2)
  have HHAS : Hid (∀ j, j < R.length → has (putD f (valU v) n) (.string (R.getD j [])) = true) := Lib.hid (fun j hj => by
    rw [← HKA.out.2.2]
    simp only [List.getD, List.getElem?_eq_getElem hj, Option.getD_some]
    exact List.getElem_mem hj)
  have HG1 := Lib.hid (HR.out.of_block (b4.block _ HR.out.lt))
  have HG2 := Lib.hid hr2
  have HS4 := Lib.hid ((HKS.out.below HB3.out).below b4)
  have HV4 := Lib.hid ((HKV.out.below HB3.out).below b4)
  have BB := Lib.hid (by have c1 := HB2.out.trans (HB3.out.mono HB2.out.size); exact c1.trans (b4.mono c1.size))
  clear hka2 hr2 b4 HK HKS HKV
  obtain ⟨N, hN⟩ : ∃ N, R.length = N := ⟨_, rfl⟩
  have hN4 : N ≤ 4096 := by omega
  have HC1 : Hid (∀ j, j < N → w4.cell? ⟨g, j, none⟩ = some (.int .i64 (vfOf f v n (R.getD j [])))) := Lib.hid (fun j hj => HG1.out.cell (by omega))
  have HC2 : Hid (∀ j, j < N → w4.cell? ⟨g2, j, none⟩ = some (.string (bs R j))) := Lib.hid (fun j hj => HG2.out.cell (by omega))
  have HL1 := Lib.hid HG1.out.lt
  have HL2 := Lib.hid HG2.out.lt
  rw [hN] at HHAS ⊢
  clear hN hl hl2
  go_wp2_with fail
  go_loopw [8] (fun j wr => ∃ k : Nat, k ≤ N ∧ j = .int .i64 k ∧ Below w4.heap.size w4 wr) (fun j _ => N - (intOf j).toNat)
  case atStart => exact ⟨0, Nat.zero_le _, rfl, Below.refl _ _⟩
  case round =>
    obtain ⟨k, hk, rfl, hb⟩ := hrel
    by_cases hlt : k < N
    rotate_left
    · go_wp2_with fail
      go_ret
      exact ⟨rfl, BB.out.trans (hb.mono BB.out.size)⟩
    have hX := HHAS.out k hlt
    have hL0 := (val_at f (valU v) _ .nil n hX).1
    have hLn := (lastZ_lo f (R.getD k []) n).2
    have hcr := HC1.out k hlt
    have hcw := HC2.out k hlt
    have hbsl : (bs R k).toList = R.getD k [] := by rw [ByteArray.toList_eq, bs_list]
    have HBSL := Lib.hid hbsl
    have HX0 := Lib.hid hL0
    have HXN := Lib.hid hLn
    have HCR := Lib.hid hcr
    have HCW := Lib.hid hcw
    clear hX hL0 hLn hcr hcw hbsl
    go_wp2_with fail
    go_loopw [9, 10] (fun l i wz => ∃ m : Nat, m ≤ n ∧ i = .int .i64 m ∧ l = .int .i64 (lastZ f (R.getD k []) m) ∧ Below w4.heap.size w4 wz) (fun _ i _ => n - (intOf i).toNat)
    case atStart => exact ⟨0, Nat.zero_le _, rfl, rfl, hb⟩
    case round =>
      clear hb
      obtain ⟨m, hm, rfl, rfl, hb⟩ := hrel
      have hcw : wr.cell? ⟨g2, k, none⟩ = some (.string (bs R k)) := (hb.cell (p := ⟨g2, k, none⟩) HL2.out).trans HCW.out
      by_cases hml : m < n
      · rcases HS4.out.below hb with ⟨_, h0, _⟩ | ⟨x, rfl, hx⟩
        · omega
        have hc := hx m hml
        clear hx
        have HBB := Lib.hid hb
        clear hb
        by_cases e : (f m).data.toList = R.getD k []
        · have hq : ((f m).toList == (bs R k).toList) = true := by rw [HBSL.out, ByteArray.toList_eq, e]; simp
          have HE := Lib.hid (show lastZ f (R.getD k []) (m + 1) = m from by unfold lastZ; rw [if_pos e])
          clear e
          go_wp2_with fail
          go_quiet (fail)
          go_wp2_with fail
          go_roundw
          case rel => exact ⟨m + 1, by omega, by go_num, by rw [HE.out], ⟨HBB.out.os, HBB.out.tape, HBB.out.output, HBB.out.size, HBB.out.block⟩⟩
          case measure => simp [intOf]; omega
        · have hq : ((f m).toList == (bs R k).toList) = false := by rw [HBSL.out, ByteArray.toList_eq]; simpa using e
          have HE := Lib.hid (show lastZ f (R.getD k []) (m + 1) = lastZ f (R.getD k []) m from by rw [lastZ, if_neg e])
          clear e
          go_wp2_with fail
          go_quiet (fail)
          go_wp2_with fail
          go_roundw
          case rel => exact ⟨m + 1, by omega, by go_num, by rw [HE.out], ⟨HBB.out.os, HBB.out.tape, HBB.out.output, HBB.out.size, HBB.out.block⟩⟩
          case measure => simp [intOf]; omega
      · obtain rfl : n = m := by omega
        have hL0 := HX0.out
        have hLn := HXN.out
        have hcr : wr.cell? ⟨g, k, none⟩ = some (.int .i64 (v (lastZ f (R.getD k []) n).toNat)) := (hb.cell (p := ⟨g, k, none⟩) HL1.out).trans HCR.out
        rcases HV4.out.below hb with ⟨_, h0, _⟩ | ⟨y, rfl, hy⟩
        · omega
        have hcv := hy (lastZ f (R.getD k []) n).toNat (by omega)
        have HBB := Lib.hid hb
        clear hy hb hcw
        generalize lastZ f (R.getD k []) n = L at *
        have hd0 : decide (L < 0) = false := by simp; omega
        have hnl : ¬ L < 0 := by omega
        clear HX0 HXN
        go_wp2_with fail
        go_quiet (fail)
        go_wp2_with fail
        go_roundw
        case rel => exact ⟨k + 1, by omega, by go_num, ⟨HBB.out.os, HBB.out.tape, HBB.out.output, HBB.out.size, HBB.out.block⟩⟩
        case measure => simp [intOf]; omega

set_option maxRecDepth 100000 in
theorem law5 (a : Option Addr) (n c : Nat) (f : Nat → ByteArray) (av : Option Addr) (nv cv : Nat) (v : Nat → Int) (w : World) (mn : n ≤ 9223372036854775807) (hz : SzOk f n) (h : StrIn w a n c f) (mv : nv ≤ 9223372036854775807) (hv : IntIn w av nv cv v) :
    Calls Try.prog 5 #[.slice a n c, .slice av nv cv] w fun e w' => e = .returned (.bool true) ∧ Below w.heap.size w w' := by
  by_cases hg : n = nv ∧ n ≤ 4096 ∧ n + tot f n + n ≤ 1048576
  · obtain ⟨rfl, h1, h2⟩ := hg
    exact law5_main a n c f av cv v w h1 h2 hz h hv
  have ZB := Lib.hid (zzb5 a n c f av nv cv w mn hz h mv)
  have HG := Lib.hid hg
  clear hz hv hg
  go_enter Try.func5, Try.ntmps5
  go_wp2_with fail
  refine ZB.out.mono ?_
  rintro e w1 ⟨⟨r, rfl, hr⟩, rfl⟩
  clear ZB
  cases r
  · go_wp2_with fail
    go_ret
    exact ⟨rfl, Below.refl _ _⟩
  have HR := Lib.hid (hr rfl)
  clear hr
  by_cases hn : n ≤ 4096
  rotate_left
  · have h2 : 4096 < n := by omega
    have h3 : n ≤ 1048576 := by have := HR.out; omega
    have h4 : nv ≤ 1048576 := by have := HR.out; omega
    go_wp2_with fail
    all_goals
      go_ret
      exact ⟨rfl, Below.refl _ _⟩
  by_cases hnv : nv ≤ 4096
  rotate_left
  · have h2 : 4096 < nv := by omega
    have h4 : nv ≤ 1048576 := by have := HR.out; omega
    go_wp2_with fail
    all_goals
      go_ret
      exact ⟨rfl, Below.refl _ _⟩
  have hne : ¬ n = nv := fun e => HG.out ⟨e, hn, by have := HR.out; omega⟩
  go_wp2_with fail
  refine (strBytes a n c f _ (by have := HR.out; omega) h).mono ?_
  rintro e w1 ⟨⟨t, rfl, t1, t2⟩, rfl⟩
  clear t2
  by_cases ht : t + 8 * nv ≤ 1048576
  rotate_left
  · go_wp2_with fail
    go_ret
    exact ⟨rfl, Below.refl _ _⟩
  have hq : ((n : Int) == nv) = false := by simp; omega
  have hq2 : ((n : Int) != nv) = true := by simp; omega
  go_wp2_with fail
  go_ret
  exact ⟨rfl, Below.refl _ _⟩
end Go.Proofs.Ytdigmjmghijkeaa
