/- encodeString: the parts of a round. Condition: the text stays below 2^40 bytes. -/
import Derived.Test.YtinhadafmlplaaaDoorI1
import Derived.Outline
import Derived.StillTailTactics
import Derived.WalkLawsBesides
import Derived.WalkSpells
import Derived.Lib.Hide
set_option linter.unusedVariables false
namespace Go.Proofs.YtinhadafmlplaaaDoor
open Go.Shelf Go.RowKit

@[go_sem] theorem meth_byte (a : Addr) (w : World) : (method 194 35 (.pointer (some a)) "WriteByte").run Tryd.prog w = .ok (25, .pointer (some a)) w := by kernel_rfl
@[go_sem] theorem meth_str (a : Addr) (w : World) : (method 194 35 (.pointer (some a)) "WriteString").run Tryd.prog w = .ok (14, .pointer (some a)) w := by kernel_rfl
theorem at0_is (s : ByteArray) (i : Nat) (h : i < s.size) : (s[i]'h).toNat = at0 s i := by
  unfold at0
  rw [ByteArray.get!, getElem!_pos s.data i h]; rfl
/-- The encoder's block. -/
def EncAt (w : World) (q b : Nat) : Prop := ∃ xs t fz, w.heap[q]? = some (.cells xs t fz) ∧ t ≠ 5 ∧ xs[0]? = some (.iface 35 (.pointer (some ⟨b, 0, none⟩)))
theorem EncAt.cell {w : World} {q b : Nat} (h : EncAt w q b) : w.cell? ⟨q, 0, none⟩ = some (.iface 35 (.pointer (some ⟨b, 0, none⟩))) := by
  obtain ⟨xs, t, fz, h1, _, h3⟩ := h
  simp [World.cell?, h1, h3]
theorem EncAt.stays {w w' : World} {q b : Nat} (h : EncAt w q b) (k : Stays q w w') : EncAt w' q b := by
  obtain ⟨xs, t, fz, h1, h2, h3⟩ := h
  exact ⟨xs, t, fz, k xs t fz h1 h2, h2, h3⟩
theorem EncAt.below {w w' : World} {q b : Nat} (h : EncAt w q b) (k : Below w.heap.size w w') : EncAt w' q b := by
  obtain ⟨xs, t, fz, h1, h2, h3⟩ := h
  exact ⟨xs, t, fz, (k.block q (Array.getElem?_eq_some_iff.1 h1).1).trans h1, h2, h3⟩
theorem tabs_kept {B : Nat} {w w' : World} (h : Lib.Utf8Tabs 0 1 w) (hb : Below B w w') (h2 : 2 ≤ B) : Lib.Utf8Tabs 0 1 w' :=
  ⟨fun c hc => (hb.cell (p := ⟨0, c, none⟩) (by simp; omega)).trans (h.1 c hc), fun i hi => ⟨(hb.cell (p := ⟨1, 2 * i, none⟩) (by simp; omega)).trans (h.2 i hi).1, (hb.cell (p := ⟨1, 2 * i + 1, none⟩) (by simp; omega)).trans (h.2 i hi).2⟩⟩
theorem hexAt (y : Nat) (h : y < 16) : (ByteArray.mk #[48, 49, 50, 51, 52, 53, 54, 55, 56, 57, 97, 98, 99, 100, 101, 102])[y]'h = hexD y :=
  (by decide : ∀ y : Fin 16, (ByteArray.mk #[48, 49, 50, 51, 52, 53, 54, 55, 56, 57, 97, 98, 99, 100, 101, 102])[y.val]'y.isLt = hexD y.val) ⟨y, h⟩
set_option maxRecDepth 100000 in
theorem low4 (x : Nat) (h : x < 128) : bits BinOp.and IntKind.u8 (x : Int) 15 = ((x % 16 : Nat) : Int) :=
  (by decide : ∀ x : Fin 128, bits BinOp.and IntKind.u8 ((x.val : Nat) : Int) 15 = ((x.val % 16 : Nat) : Int)) ⟨x, h⟩
theorem escT_rest (x : Nat) (h : ¬ (x = 34 ∨ x = 92 ∨ x = 8 ∨ x = 12 ∨ x = 10 ∨ x = 13 ∨ x = 9)) : escT x = [92, 117, 48, 48, hexD (x / 16), hexD (x % 16)] ∧ (escT x).length = 6 := by
  have e : escT x = [92, 117, 48, 48, hexD (x / 16), hexD (x % 16)] := by
    unfold escT
    rw [if_neg (by omega), if_neg (by omega), if_neg (by omega), if_neg (by omega), if_neg (by omega), if_neg (by omega), if_neg (by omega)]
  exact ⟨e, by rw [e]; rfl⟩
/-- The loop's relation. -/
def Rel (s : ByteArray) (l : List UInt8) (B b q : Nat) (w : World) (I S : Nat) (wr : World) : Prop := ∃ L, Enc s l I S L ∧ BB B b L wr ∧ EncAt wr q b ∧ Below B w wr

set_option maxRecDepth 100000 in
set_option maxHeartbeats 40000000 in
theorem enc_any (B b q : Nat) (l : List UInt8) (s : ByteArray) (w : World) (hq : q ≠ b) (hs : s.size ≤ 1048576) (h2 : 2 ≤ B) (hT : Lib.Utf8Tabs 0 1 w) (h : BB B b l w) (hE : EncAt w q b) (hlen : l.length + (encT s).length + 2 ≤ 1099511627776) :
    Calls Tryd.prog 28 #[.pointer (some ⟨q, 0, none⟩), .string s] w fun e w' => e = .returned (.tuple #[]) ∧ BB B b (l ++ [34] ++ encT s ++ [34]) w' ∧ Below B w w' := by
  have HLEN := Lib.hid hlen
  have HT := Lib.hid hT
  clear hlen hT
  have c0 := hE.cell
  go_enter Tryd.func28, Tryd.ntmps28
  go_wp2_with fail
  refine (bbk_WriteByte B b q l 34 34 _ hq h rfl (by have := HLEN.out; omega)).mono ?_
  rintro e w1 ⟨rfl, h1, b1, k1⟩
  have E1 := hE.stays k1
  clear h c0 hE k1
  go_wp2_with fail
  go_loopw [4, 5] (fun st i wr => ∃ I S : Nat, st = .int .i64 S ∧ i = .int .i64 I ∧ Rel s l B b q w I S wr) (fun _ i _ => s.size - (intOf i).toNat)
  case atStart => exact ⟨0, 0, rfl, rfl, _, Enc.start s l, h1, E1, b1⟩
  case round =>
    clear h1 b1 E1
    obtain ⟨I, S, rfl, rfl, L, hEnc, hbb, hAt, hbw⟩ := hrel
    have c0 := hAt.cell
    have hle := hEnc.le
    by_cases hlt : I < s.size
    rotate_left
    · -- the end
      have HSS : S ≤ s.size := by omega
      obtain ⟨rfl, hfin⟩ := hEnc.done hlt
      have hl := hEnc.len
      have HF := Lib.hid hfin
      have HL := Lib.hid hl
      have HAT := Lib.hid hAt
      clear hfin hl hEnc hAt hle
      by_cases hst : S < s.size
      · go_wp2_with fail
        go_still_tail 9, (by kernel_rfl)
        change wpList _ _ _ _ _ wr.drew
        have hbb' : BB B b L wr.drew := hbb
        have hAT' : EncAt wr.drew q b := HAT.out
        have hbw' : Below B w wr.drew := ⟨hbw.os, hbw.tape, hbw.output, hbw.size, hbw.block⟩
        have c0' := hAT'.cell
        generalize wr.drew = wd at *
        clear hbb HAT hbw c0
        go_wp2_with fail
        refine (bbk_WriteString B b q L (s.extract S s.size) _ hq hbb' (by have := HLEN.out; have := HL.out; omega)).mono ?_
        rintro e w2 ⟨rfl, h3, b3, k3⟩
        have c3 := (hAT'.stays k3).cell
        rw [HF.out] at h3
        clear c0' k3
        go_wp2_with fail
        refine (bbk_WriteByte B b q _ 34 34 _ hq h3 rfl (by have := HLEN.out; simp only [List.length_append, List.length_cons, List.length_nil]; omega)).mono ?_
        rintro e w4 ⟨rfl, h4, b4, k4⟩
        go_wp2_with fail
        go_end0
        exact ⟨rfl, h4, hbw'.trans (b3.trans b4)⟩
      · have hS : S = s.size := by omega
        have HF2 : Hid (L = l ++ [34] ++ encT s) := Lib.hid (by have := HF.out; rw [hS, ext_nil, List.append_nil] at this; exact this)
        clear hS HF
        go_wp2_with fail
        refine (bbk_WriteByte B b q L 34 34 _ hq hbb rfl (by have := HLEN.out; have := HL.out; omega)).mono ?_
        rintro e w4 ⟨rfl, h4, b4, k4⟩
        rw [HF2.out] at h4
        go_wp2_with fail
        go_end0
        exact ⟨rfl, h4, hbw.trans b4⟩
    have hx := at0_is s I hlt
    have hS1 : S ≤ I := hle.1
    have hS2 : I ≤ s.size := hle.2
    clear hle
    generalize hX : at0 s I = x at hx
    have HX := Lib.hid hX
    clear hX
    by_cases ha : x < 128
    · by_cases hp : plainB x
      · have HTK := Lib.hid (show tok s I = ((s.extract I (I + 1)).data.toList, 1) from by unfold tok; rw [HX.out, if_pos ha, if_pos hp])
        obtain ⟨p1, p2, p3, p4⟩ := hp
        have q3 : ((x : Int) != 34) = true := by simp; omega
        have q4 : ((x : Int) != 92) = true := by simp; omega
        have q3' : ((x : Int) == 34) = false := by simp; omega
        have q4' : ((x : Int) == 92) = false := by simp; omega
        have HEN := Lib.hid hEnc
        have HAT := Lib.hid hAt
        clear hEnc hAt
        go_wp2_with fail
        go_roundw
        case rel => exact ⟨I + 1, S, by go_num, by go_num, L, HEN.out.plain hlt HTK.out, hbb, HAT.out, hbw⟩
        case measure => simp [intOf]; omega
      by_cases hsp : x = 34 ∨ x = 92 ∨ x = 8 ∨ x = 12 ∨ x = 10 ∨ x = 13 ∨ x = 9
      rotate_left
      · -- the rest: hexadecimal
        have HTK := Lib.hid (show tok s I = (escT x, 1) from by unfold tok; rw [HX.out, if_pos ha, if_neg hp])
        have hl := hEnc.len2 hlt HTK.out
        have HL := Lib.hid hl
        have HEN := Lib.hid hEnc
        have HAT := Lib.hid hAt
        have HES := Lib.hid (escT_rest x hsp)
        have hx2 : x < 32 ∨ (32 ≤ x ∧ 126 < x) := by unfold plainB at hp; omega
        have f34 : ((x : Int) == 34) = false := by simp; omega
        have f92 : ((x : Int) == 92) = false := by simp; omega
        have f8 : ((x : Int) == 8) = false := by simp; omega
        have f12 : ((x : Int) == 12) = false := by simp; omega
        have f10 : ((x : Int) == 10) = false := by simp; omega
        have f13 : ((x : Int) == 13) = false := by simp; omega
        have f9 : ((x : Int) == 9) = false := by simp; omega
        have y0 : (0 : Int) ≤ (x : Int) / 16 := by omega
        have y1 : (x : Int) / 16 < 16 := by omega
        obtain ⟨z, hz⟩ : ∃ z, z = x % 16 := ⟨_, rfl⟩
        have hz16 : z < 16 := by omega
        have z0 : (0 : Int) ≤ (z : Int) := by omega
        have z1 : (z : Int) < 16 := by omega
        have hb15 : bits BinOp.and IntKind.u8 (x : Int) 15 = (z : Int) := by rw [hz]; exact low4 x ha
        rw [← hz] at HES
        clear hEnc hAt hl HX hp hsp hz
        rcases hx2 with hx2 | ⟨hx3, hx2⟩
        · by_cases hst : S < I
          · as_aux_lemma =>
              go_wp2_with fail
              go_still_tail 10, (by kernel_rfl)
              change wpList _ _ _ _ _ wr.drew
              have hbb' : BB B b L wr.drew := hbb
              have hAT' : EncAt wr.drew q b := HAT.out
              have hbw' : Below B w wr.drew := ⟨hbw.os, hbw.tape, hbw.output, hbw.size, hbw.block⟩
              have c0' := hAT'.cell
              generalize wr.drew = wd at *
              clear hbb HAT hbw c0
              go_wp2_with fail
              refine (bbk_WriteString B b q L (s.extract S I) _ hq hbb' (by have := HLEN.out; have := HL.out; omega)).mono ?_
              rintro e w2 ⟨rfl, h3, b3, k3⟩
              have a3 := hAT'.stays k3
              have c3 := a3.cell
              have w3 := hbw'.trans b3
              clear c0' k3 hAT' hbb' hbw' b3
              go_wp2_with fail
              refine (bbk_WriteString B b q (L ++ (s.extract S I).data.toList) ⟨#[92, 117, 48, 48]⟩ _ hq h3 (by have := HLEN.out; have := HL.out; have e := HES.out.2; simp only [List.length_append, List.length_cons, List.length_nil] at this ⊢; omega)).mono ?_
              rintro e w20 ⟨rfl, h20, b20, k20⟩
              have a20 := a3.stays k20
              have v20 := w3.trans b20
              have c20 := a20.cell
              clear k20 b20 h3 a3 w3 c3
              go_wp2_with fail
              go_still_tail 9, (by kernel_rfl)
              change wpList _ _ _ _ _ w20.drew
              have h21 : BB B b (L ++ (s.extract S I).data.toList ++ [92, 117, 48, 48]) w20.drew := h20
              have a21 : EncAt w20.drew q b := a20
              have v21 : Below B w w20.drew := ⟨v20.os, v20.tape, v20.output, v20.size, v20.block⟩
              have c21 := a21.cell
              generalize w20.drew = wd2 at *
              clear h20 a20 c20 v20
              go_wp2_with fail
              refine (bbk_WriteByte B b q (L ++ (s.extract S I).data.toList ++ [92, 117, 48, 48]) _ _ _ hq h21 rfl (by have := HLEN.out; have := HL.out; have e := HES.out.2; simp only [List.length_append, List.length_cons, List.length_nil] at this ⊢; omega)).mono ?_
              rintro e w22 ⟨rfl, h22, b22, k22⟩
              have a22 := a21.stays k22
              have v22 := v21.trans b22
              have c22 := a22.cell
              rw [hexAt (x / 16) (by omega)] at h22
              clear h21 a21 c21 b22 k22 v21
              go_wp2_with fail
              go_still_tail 9, (by kernel_rfl)
              change wpList _ _ _ _ _ w22.drew
              have h23 : BB B b (L ++ (s.extract S I).data.toList ++ [92, 117, 48, 48] ++ [hexD (x / 16)]) w22.drew := h22
              have a23 : EncAt w22.drew q b := a22
              have v23 : Below B w w22.drew := ⟨v22.os, v22.tape, v22.output, v22.size, v22.block⟩
              have c23 := a23.cell
              generalize w22.drew = wd3 at *
              clear h22 a22 c22 v22
              go_wp2_with fail
              refine (bbk_WriteByte B b q (L ++ (s.extract S I).data.toList ++ [92, 117, 48, 48] ++ [hexD (x / 16)]) _ _ _ hq h23 rfl (by have := HLEN.out; have := HL.out; have e := HES.out.2; simp only [List.length_append, List.length_cons, List.length_nil] at this ⊢; omega)).mono ?_
              rintro e w24 ⟨rfl, h24, b24, k24⟩
              have a24 := a23.stays k24
              have v24 := v23.trans b24
              rw [hexAt z hz16] at h24
              have h25 : BB B b (L ++ (s.extract S I).data.toList ++ escT x) w24 := by rw [HES.out.1]; simpa only [List.append_assoc, List.cons_append, List.nil_append] using h24
              clear h23 a23 c23 b24 k24 v23 h24
              go_wp2_with fail
              go_roundw
              case rel => exact ⟨I + 1, I + 1, by go_num, by go_num, _, HEN.out.flush hlt HTK.out, h25, a24, v24⟩
              case measure => simp [intOf]; omega
          · as_aux_lemma =>
              obtain rfl : I = S := by omega
              go_wp2_with fail
              refine (bbk_WriteString B b q (L) ⟨#[92, 117, 48, 48]⟩ _ hq hbb (by have := HLEN.out; have := HL.out; have e := HES.out.2; simp only [List.length_cons, List.length_nil] at this ⊢; omega)).mono ?_
              rintro e w20 ⟨rfl, h20, b20, k20⟩
              have a20 := HAT.out.stays k20
              have v20 := hbw.trans b20
              have c20 := a20.cell
              clear k20 b20 hbb hbw c0
              go_wp2_with fail
              go_still_tail 9, (by kernel_rfl)
              change wpList _ _ _ _ _ w20.drew
              have h21 : BB B b (L ++ [92, 117, 48, 48]) w20.drew := h20
              have a21 : EncAt w20.drew q b := a20
              have v21 : Below B w w20.drew := ⟨v20.os, v20.tape, v20.output, v20.size, v20.block⟩
              have c21 := a21.cell
              generalize w20.drew = wd2 at *
              clear h20 a20 c20 v20
              go_wp2_with fail
              refine (bbk_WriteByte B b q (L ++ [92, 117, 48, 48]) _ _ _ hq h21 rfl (by have := HLEN.out; have := HL.out; have e := HES.out.2; simp only [List.length_append, List.length_cons, List.length_nil] at this ⊢; omega)).mono ?_
              rintro e w22 ⟨rfl, h22, b22, k22⟩
              have a22 := a21.stays k22
              have v22 := v21.trans b22
              have c22 := a22.cell
              rw [hexAt (x / 16) (by omega)] at h22
              clear h21 a21 c21 b22 k22 v21
              go_wp2_with fail
              go_still_tail 9, (by kernel_rfl)
              change wpList _ _ _ _ _ w22.drew
              have h23 : BB B b (L ++ [92, 117, 48, 48] ++ [hexD (x / 16)]) w22.drew := h22
              have a23 : EncAt w22.drew q b := a22
              have v23 : Below B w w22.drew := ⟨v22.os, v22.tape, v22.output, v22.size, v22.block⟩
              have c23 := a23.cell
              generalize w22.drew = wd3 at *
              clear h22 a22 c22 v22
              go_wp2_with fail
              refine (bbk_WriteByte B b q (L ++ [92, 117, 48, 48] ++ [hexD (x / 16)]) _ _ _ hq h23 rfl (by have := HLEN.out; have := HL.out; have e := HES.out.2; simp only [List.length_append, List.length_cons, List.length_nil] at this ⊢; omega)).mono ?_
              rintro e w24 ⟨rfl, h24, b24, k24⟩
              have a24 := a23.stays k24
              have v24 := v23.trans b24
              rw [hexAt z hz16] at h24
              have h25 : BB B b (L ++ escT x) w24 := by rw [HES.out.1]; simpa only [List.append_assoc, List.cons_append, List.nil_append] using h24
              clear h23 a23 c23 b24 k24 v23 h24
              go_wp2_with fail
              go_roundw
              case rel => exact ⟨I + 1, I + 1, by go_num, by go_num, _, HEN.out.flush0 hlt HTK.out, h25, a24, v24⟩
              case measure => simp [intOf]; omega
        · by_cases hst : S < I
          · as_aux_lemma =>
              go_wp2_with fail
              go_still_tail 10, (by kernel_rfl)
              change wpList _ _ _ _ _ wr.drew
              have hbb' : BB B b L wr.drew := hbb
              have hAT' : EncAt wr.drew q b := HAT.out
              have hbw' : Below B w wr.drew := ⟨hbw.os, hbw.tape, hbw.output, hbw.size, hbw.block⟩
              have c0' := hAT'.cell
              generalize wr.drew = wd at *
              clear hbb HAT hbw c0
              go_wp2_with fail
              refine (bbk_WriteString B b q L (s.extract S I) _ hq hbb' (by have := HLEN.out; have := HL.out; omega)).mono ?_
              rintro e w2 ⟨rfl, h3, b3, k3⟩
              have a3 := hAT'.stays k3
              have c3 := a3.cell
              have w3 := hbw'.trans b3
              clear c0' k3 hAT' hbb' hbw' b3
              go_wp2_with fail
              refine (bbk_WriteString B b q (L ++ (s.extract S I).data.toList) ⟨#[92, 117, 48, 48]⟩ _ hq h3 (by have := HLEN.out; have := HL.out; have e := HES.out.2; simp only [List.length_append, List.length_cons, List.length_nil] at this ⊢; omega)).mono ?_
              rintro e w20 ⟨rfl, h20, b20, k20⟩
              have a20 := a3.stays k20
              have v20 := w3.trans b20
              have c20 := a20.cell
              clear k20 b20 h3 a3 w3 c3
              go_wp2_with fail
              go_still_tail 9, (by kernel_rfl)
              change wpList _ _ _ _ _ w20.drew
              have h21 : BB B b (L ++ (s.extract S I).data.toList ++ [92, 117, 48, 48]) w20.drew := h20
              have a21 : EncAt w20.drew q b := a20
              have v21 : Below B w w20.drew := ⟨v20.os, v20.tape, v20.output, v20.size, v20.block⟩
              have c21 := a21.cell
              generalize w20.drew = wd2 at *
              clear h20 a20 c20 v20
              go_wp2_with fail
              refine (bbk_WriteByte B b q (L ++ (s.extract S I).data.toList ++ [92, 117, 48, 48]) _ _ _ hq h21 rfl (by have := HLEN.out; have := HL.out; have e := HES.out.2; simp only [List.length_append, List.length_cons, List.length_nil] at this ⊢; omega)).mono ?_
              rintro e w22 ⟨rfl, h22, b22, k22⟩
              have a22 := a21.stays k22
              have v22 := v21.trans b22
              have c22 := a22.cell
              rw [hexAt (x / 16) (by omega)] at h22
              clear h21 a21 c21 b22 k22 v21
              go_wp2_with fail
              go_still_tail 9, (by kernel_rfl)
              change wpList _ _ _ _ _ w22.drew
              have h23 : BB B b (L ++ (s.extract S I).data.toList ++ [92, 117, 48, 48] ++ [hexD (x / 16)]) w22.drew := h22
              have a23 : EncAt w22.drew q b := a22
              have v23 : Below B w w22.drew := ⟨v22.os, v22.tape, v22.output, v22.size, v22.block⟩
              have c23 := a23.cell
              generalize w22.drew = wd3 at *
              clear h22 a22 c22 v22
              go_wp2_with fail
              refine (bbk_WriteByte B b q (L ++ (s.extract S I).data.toList ++ [92, 117, 48, 48] ++ [hexD (x / 16)]) _ _ _ hq h23 rfl (by have := HLEN.out; have := HL.out; have e := HES.out.2; simp only [List.length_append, List.length_cons, List.length_nil] at this ⊢; omega)).mono ?_
              rintro e w24 ⟨rfl, h24, b24, k24⟩
              have a24 := a23.stays k24
              have v24 := v23.trans b24
              rw [hexAt z hz16] at h24
              have h25 : BB B b (L ++ (s.extract S I).data.toList ++ escT x) w24 := by rw [HES.out.1]; simpa only [List.append_assoc, List.cons_append, List.nil_append] using h24
              clear h23 a23 c23 b24 k24 v23 h24
              go_wp2_with fail
              go_roundw
              case rel => exact ⟨I + 1, I + 1, by go_num, by go_num, _, HEN.out.flush hlt HTK.out, h25, a24, v24⟩
              case measure => simp [intOf]; omega
          · as_aux_lemma =>
              obtain rfl : I = S := by omega
              go_wp2_with fail
              refine (bbk_WriteString B b q (L) ⟨#[92, 117, 48, 48]⟩ _ hq hbb (by have := HLEN.out; have := HL.out; have e := HES.out.2; simp only [List.length_cons, List.length_nil] at this ⊢; omega)).mono ?_
              rintro e w20 ⟨rfl, h20, b20, k20⟩
              have a20 := HAT.out.stays k20
              have v20 := hbw.trans b20
              have c20 := a20.cell
              clear k20 b20 hbb hbw c0
              go_wp2_with fail
              go_still_tail 9, (by kernel_rfl)
              change wpList _ _ _ _ _ w20.drew
              have h21 : BB B b (L ++ [92, 117, 48, 48]) w20.drew := h20
              have a21 : EncAt w20.drew q b := a20
              have v21 : Below B w w20.drew := ⟨v20.os, v20.tape, v20.output, v20.size, v20.block⟩
              have c21 := a21.cell
              generalize w20.drew = wd2 at *
              clear h20 a20 c20 v20
              go_wp2_with fail
              refine (bbk_WriteByte B b q (L ++ [92, 117, 48, 48]) _ _ _ hq h21 rfl (by have := HLEN.out; have := HL.out; have e := HES.out.2; simp only [List.length_append, List.length_cons, List.length_nil] at this ⊢; omega)).mono ?_
              rintro e w22 ⟨rfl, h22, b22, k22⟩
              have a22 := a21.stays k22
              have v22 := v21.trans b22
              have c22 := a22.cell
              rw [hexAt (x / 16) (by omega)] at h22
              clear h21 a21 c21 b22 k22 v21
              go_wp2_with fail
              go_still_tail 9, (by kernel_rfl)
              change wpList _ _ _ _ _ w22.drew
              have h23 : BB B b (L ++ [92, 117, 48, 48] ++ [hexD (x / 16)]) w22.drew := h22
              have a23 : EncAt w22.drew q b := a22
              have v23 : Below B w w22.drew := ⟨v22.os, v22.tape, v22.output, v22.size, v22.block⟩
              have c23 := a23.cell
              generalize w22.drew = wd3 at *
              clear h22 a22 c22 v22
              go_wp2_with fail
              refine (bbk_WriteByte B b q (L ++ [92, 117, 48, 48] ++ [hexD (x / 16)]) _ _ _ hq h23 rfl (by have := HLEN.out; have := HL.out; have e := HES.out.2; simp only [List.length_append, List.length_cons, List.length_nil] at this ⊢; omega)).mono ?_
              rintro e w24 ⟨rfl, h24, b24, k24⟩
              have a24 := a23.stays k24
              have v24 := v23.trans b24
              rw [hexAt z hz16] at h24
              have h25 : BB B b (L ++ escT x) w24 := by rw [HES.out.1]; simpa only [List.append_assoc, List.cons_append, List.nil_append] using h24
              clear h23 a23 c23 b24 k24 v23 h24
              go_wp2_with fail
              go_roundw
              case rel => exact ⟨I + 1, I + 1, by go_num, by go_num, _, HEN.out.flush0 hlt HTK.out, h25, a24, v24⟩
              case measure => simp [intOf]; omega
      rcases hsp with rfl | rfl | rfl | rfl | rfl | rfl | rfl
      · -- 34
        have HTK := Lib.hid (show tok s I = (escT 34, 1) from by unfold tok; rw [HX.out, if_pos (by decide), if_neg (by decide)])
        have hl := hEnc.len2 hlt HTK.out
        have HL := Lib.hid hl
        have HEN := Lib.hid hEnc
        have HAT := Lib.hid hAt
        clear hEnc hAt hl HX hp ha
        by_cases hst : S < I
        · as_aux_lemma =>
            go_wp2_with fail
            go_still_tail 10, (by kernel_rfl)
            change wpList _ _ _ _ _ wr.drew
            have hbb' : BB B b L wr.drew := hbb
            have hAT' : EncAt wr.drew q b := HAT.out
            have hbw' : Below B w wr.drew := ⟨hbw.os, hbw.tape, hbw.output, hbw.size, hbw.block⟩
            have c0' := hAT'.cell
            generalize wr.drew = wd at *
            clear hbb HAT hbw c0
            go_wp2_with fail
            refine (bbk_WriteString B b q L (s.extract S I) _ hq hbb' (by have := HLEN.out; have := HL.out; omega)).mono ?_
            rintro e w2 ⟨rfl, h3, b3, k3⟩
            have a3 := hAT'.stays k3
            have c3 := a3.cell
            have w3 := hbw'.trans b3
            clear c0' k3 hAT' hbb' hbw' b3
            go_wp2_with fail
            refine (bbk_WriteString B b q (L ++ (s.extract S I).data.toList) ⟨#[92, 34]⟩ _ hq h3 (by have := HLEN.out; have := HL.out; simp only [List.length_append, List.length_cons, List.length_nil] at this ⊢; have e : (escT 34).length = 2 := rfl; omega)).mono ?_
            rintro e w10 ⟨rfl, h10, b10, k10⟩
            have a10 := a3.stays k10
            have v10 := w3.trans b10
            have c10 := a10.cell
            clear k10 b10 h3 a3 w3
            go_wp2_with fail
            go_roundw
            case rel => exact ⟨I + 1, I + 1, by go_num, by go_num, _, HEN.out.flush hlt HTK.out, by simpa [escT] using h10, a10, v10⟩
            case measure => simp [intOf]; omega
        · as_aux_lemma =>
            obtain rfl : I = S := by omega
            go_wp2_with fail
            refine (bbk_WriteString B b q (L) ⟨#[92, 34]⟩ _ hq hbb (by have := HLEN.out; have := HL.out; simp only [List.length_cons, List.length_nil] at this ⊢; have e : (escT 34).length = 2 := rfl; omega)).mono ?_
            rintro e w10 ⟨rfl, h10, b10, k10⟩
            have a10 := HAT.out.stays k10
            have v10 := hbw.trans b10
            have c10 := a10.cell
            clear k10 b10 hbb hbw
            go_wp2_with fail
            go_roundw
            case rel => exact ⟨I + 1, I + 1, by go_num, by go_num, _, HEN.out.flush0 hlt HTK.out, by simpa [escT] using h10, a10, v10⟩
            case measure => simp [intOf]; omega
      · -- 92
        have HTK := Lib.hid (show tok s I = (escT 92, 1) from by unfold tok; rw [HX.out, if_pos (by decide), if_neg (by decide)])
        have hl := hEnc.len2 hlt HTK.out
        have HL := Lib.hid hl
        have HEN := Lib.hid hEnc
        have HAT := Lib.hid hAt
        clear hEnc hAt hl HX hp ha
        by_cases hst : S < I
        · as_aux_lemma =>
            go_wp2_with fail
            go_still_tail 10, (by kernel_rfl)
            change wpList _ _ _ _ _ wr.drew
            have hbb' : BB B b L wr.drew := hbb
            have hAT' : EncAt wr.drew q b := HAT.out
            have hbw' : Below B w wr.drew := ⟨hbw.os, hbw.tape, hbw.output, hbw.size, hbw.block⟩
            have c0' := hAT'.cell
            generalize wr.drew = wd at *
            clear hbb HAT hbw c0
            go_wp2_with fail
            refine (bbk_WriteString B b q L (s.extract S I) _ hq hbb' (by have := HLEN.out; have := HL.out; omega)).mono ?_
            rintro e w2 ⟨rfl, h3, b3, k3⟩
            have a3 := hAT'.stays k3
            have c3 := a3.cell
            have w3 := hbw'.trans b3
            clear c0' k3 hAT' hbb' hbw' b3
            go_wp2_with fail
            refine (bbk_WriteString B b q (L ++ (s.extract S I).data.toList) ⟨#[92, 92]⟩ _ hq h3 (by have := HLEN.out; have := HL.out; simp only [List.length_append, List.length_cons, List.length_nil] at this ⊢; have e : (escT 92).length = 2 := rfl; omega)).mono ?_
            rintro e w10 ⟨rfl, h10, b10, k10⟩
            have a10 := a3.stays k10
            have v10 := w3.trans b10
            have c10 := a10.cell
            clear k10 b10 h3 a3 w3
            go_wp2_with fail
            go_roundw
            case rel => exact ⟨I + 1, I + 1, by go_num, by go_num, _, HEN.out.flush hlt HTK.out, by simpa [escT] using h10, a10, v10⟩
            case measure => simp [intOf]; omega
        · as_aux_lemma =>
            obtain rfl : I = S := by omega
            go_wp2_with fail
            refine (bbk_WriteString B b q (L) ⟨#[92, 92]⟩ _ hq hbb (by have := HLEN.out; have := HL.out; simp only [List.length_cons, List.length_nil] at this ⊢; have e : (escT 92).length = 2 := rfl; omega)).mono ?_
            rintro e w10 ⟨rfl, h10, b10, k10⟩
            have a10 := HAT.out.stays k10
            have v10 := hbw.trans b10
            have c10 := a10.cell
            clear k10 b10 hbb hbw
            go_wp2_with fail
            go_roundw
            case rel => exact ⟨I + 1, I + 1, by go_num, by go_num, _, HEN.out.flush0 hlt HTK.out, by simpa [escT] using h10, a10, v10⟩
            case measure => simp [intOf]; omega
      · -- 8
        have HTK := Lib.hid (show tok s I = (escT 8, 1) from by unfold tok; rw [HX.out, if_pos (by decide), if_neg (by decide)])
        have hl := hEnc.len2 hlt HTK.out
        have HL := Lib.hid hl
        have HEN := Lib.hid hEnc
        have HAT := Lib.hid hAt
        clear hEnc hAt hl HX hp ha
        by_cases hst : S < I
        · as_aux_lemma =>
            go_wp2_with fail
            go_still_tail 10, (by kernel_rfl)
            change wpList _ _ _ _ _ wr.drew
            have hbb' : BB B b L wr.drew := hbb
            have hAT' : EncAt wr.drew q b := HAT.out
            have hbw' : Below B w wr.drew := ⟨hbw.os, hbw.tape, hbw.output, hbw.size, hbw.block⟩
            have c0' := hAT'.cell
            generalize wr.drew = wd at *
            clear hbb HAT hbw c0
            go_wp2_with fail
            refine (bbk_WriteString B b q L (s.extract S I) _ hq hbb' (by have := HLEN.out; have := HL.out; omega)).mono ?_
            rintro e w2 ⟨rfl, h3, b3, k3⟩
            have a3 := hAT'.stays k3
            have c3 := a3.cell
            have w3 := hbw'.trans b3
            clear c0' k3 hAT' hbb' hbw' b3
            go_wp2_with fail
            refine (bbk_WriteString B b q (L ++ (s.extract S I).data.toList) ⟨#[92, 98]⟩ _ hq h3 (by have := HLEN.out; have := HL.out; simp only [List.length_append, List.length_cons, List.length_nil] at this ⊢; have e : (escT 8).length = 2 := rfl; omega)).mono ?_
            rintro e w10 ⟨rfl, h10, b10, k10⟩
            have a10 := a3.stays k10
            have v10 := w3.trans b10
            have c10 := a10.cell
            clear k10 b10 h3 a3 w3
            go_wp2_with fail
            go_roundw
            case rel => exact ⟨I + 1, I + 1, by go_num, by go_num, _, HEN.out.flush hlt HTK.out, by simpa [escT] using h10, a10, v10⟩
            case measure => simp [intOf]; omega
        · as_aux_lemma =>
            obtain rfl : I = S := by omega
            go_wp2_with fail
            refine (bbk_WriteString B b q (L) ⟨#[92, 98]⟩ _ hq hbb (by have := HLEN.out; have := HL.out; simp only [List.length_cons, List.length_nil] at this ⊢; have e : (escT 8).length = 2 := rfl; omega)).mono ?_
            rintro e w10 ⟨rfl, h10, b10, k10⟩
            have a10 := HAT.out.stays k10
            have v10 := hbw.trans b10
            have c10 := a10.cell
            clear k10 b10 hbb hbw
            go_wp2_with fail
            go_roundw
            case rel => exact ⟨I + 1, I + 1, by go_num, by go_num, _, HEN.out.flush0 hlt HTK.out, by simpa [escT] using h10, a10, v10⟩
            case measure => simp [intOf]; omega
      · -- 12
        have HTK := Lib.hid (show tok s I = (escT 12, 1) from by unfold tok; rw [HX.out, if_pos (by decide), if_neg (by decide)])
        have hl := hEnc.len2 hlt HTK.out
        have HL := Lib.hid hl
        have HEN := Lib.hid hEnc
        have HAT := Lib.hid hAt
        clear hEnc hAt hl HX hp ha
        by_cases hst : S < I
        · as_aux_lemma =>
            go_wp2_with fail
            go_still_tail 10, (by kernel_rfl)
            change wpList _ _ _ _ _ wr.drew
            have hbb' : BB B b L wr.drew := hbb
            have hAT' : EncAt wr.drew q b := HAT.out
            have hbw' : Below B w wr.drew := ⟨hbw.os, hbw.tape, hbw.output, hbw.size, hbw.block⟩
            have c0' := hAT'.cell
            generalize wr.drew = wd at *
            clear hbb HAT hbw c0
            go_wp2_with fail
            refine (bbk_WriteString B b q L (s.extract S I) _ hq hbb' (by have := HLEN.out; have := HL.out; omega)).mono ?_
            rintro e w2 ⟨rfl, h3, b3, k3⟩
            have a3 := hAT'.stays k3
            have c3 := a3.cell
            have w3 := hbw'.trans b3
            clear c0' k3 hAT' hbb' hbw' b3
            go_wp2_with fail
            refine (bbk_WriteString B b q (L ++ (s.extract S I).data.toList) ⟨#[92, 102]⟩ _ hq h3 (by have := HLEN.out; have := HL.out; simp only [List.length_append, List.length_cons, List.length_nil] at this ⊢; have e : (escT 12).length = 2 := rfl; omega)).mono ?_
            rintro e w10 ⟨rfl, h10, b10, k10⟩
            have a10 := a3.stays k10
            have v10 := w3.trans b10
            have c10 := a10.cell
            clear k10 b10 h3 a3 w3
            go_wp2_with fail
            go_roundw
            case rel => exact ⟨I + 1, I + 1, by go_num, by go_num, _, HEN.out.flush hlt HTK.out, by simpa [escT] using h10, a10, v10⟩
            case measure => simp [intOf]; omega
        · as_aux_lemma =>
            obtain rfl : I = S := by omega
            go_wp2_with fail
            refine (bbk_WriteString B b q (L) ⟨#[92, 102]⟩ _ hq hbb (by have := HLEN.out; have := HL.out; simp only [List.length_cons, List.length_nil] at this ⊢; have e : (escT 12).length = 2 := rfl; omega)).mono ?_
            rintro e w10 ⟨rfl, h10, b10, k10⟩
            have a10 := HAT.out.stays k10
            have v10 := hbw.trans b10
            have c10 := a10.cell
            clear k10 b10 hbb hbw
            go_wp2_with fail
            go_roundw
            case rel => exact ⟨I + 1, I + 1, by go_num, by go_num, _, HEN.out.flush0 hlt HTK.out, by simpa [escT] using h10, a10, v10⟩
            case measure => simp [intOf]; omega
      · -- 10
        have HTK := Lib.hid (show tok s I = (escT 10, 1) from by unfold tok; rw [HX.out, if_pos (by decide), if_neg (by decide)])
        have hl := hEnc.len2 hlt HTK.out
        have HL := Lib.hid hl
        have HEN := Lib.hid hEnc
        have HAT := Lib.hid hAt
        clear hEnc hAt hl HX hp ha
        by_cases hst : S < I
        · as_aux_lemma =>
            go_wp2_with fail
            go_still_tail 10, (by kernel_rfl)
            change wpList _ _ _ _ _ wr.drew
            have hbb' : BB B b L wr.drew := hbb
            have hAT' : EncAt wr.drew q b := HAT.out
            have hbw' : Below B w wr.drew := ⟨hbw.os, hbw.tape, hbw.output, hbw.size, hbw.block⟩
            have c0' := hAT'.cell
            generalize wr.drew = wd at *
            clear hbb HAT hbw c0
            go_wp2_with fail
            refine (bbk_WriteString B b q L (s.extract S I) _ hq hbb' (by have := HLEN.out; have := HL.out; omega)).mono ?_
            rintro e w2 ⟨rfl, h3, b3, k3⟩
            have a3 := hAT'.stays k3
            have c3 := a3.cell
            have w3 := hbw'.trans b3
            clear c0' k3 hAT' hbb' hbw' b3
            go_wp2_with fail
            refine (bbk_WriteString B b q (L ++ (s.extract S I).data.toList) ⟨#[92, 110]⟩ _ hq h3 (by have := HLEN.out; have := HL.out; simp only [List.length_append, List.length_cons, List.length_nil] at this ⊢; have e : (escT 10).length = 2 := rfl; omega)).mono ?_
            rintro e w10 ⟨rfl, h10, b10, k10⟩
            have a10 := a3.stays k10
            have v10 := w3.trans b10
            have c10 := a10.cell
            clear k10 b10 h3 a3 w3
            go_wp2_with fail
            go_roundw
            case rel => exact ⟨I + 1, I + 1, by go_num, by go_num, _, HEN.out.flush hlt HTK.out, by simpa [escT] using h10, a10, v10⟩
            case measure => simp [intOf]; omega
        · as_aux_lemma =>
            obtain rfl : I = S := by omega
            go_wp2_with fail
            refine (bbk_WriteString B b q (L) ⟨#[92, 110]⟩ _ hq hbb (by have := HLEN.out; have := HL.out; simp only [List.length_cons, List.length_nil] at this ⊢; have e : (escT 10).length = 2 := rfl; omega)).mono ?_
            rintro e w10 ⟨rfl, h10, b10, k10⟩
            have a10 := HAT.out.stays k10
            have v10 := hbw.trans b10
            have c10 := a10.cell
            clear k10 b10 hbb hbw
            go_wp2_with fail
            go_roundw
            case rel => exact ⟨I + 1, I + 1, by go_num, by go_num, _, HEN.out.flush0 hlt HTK.out, by simpa [escT] using h10, a10, v10⟩
            case measure => simp [intOf]; omega
      · -- 13
        have HTK := Lib.hid (show tok s I = (escT 13, 1) from by unfold tok; rw [HX.out, if_pos (by decide), if_neg (by decide)])
        have hl := hEnc.len2 hlt HTK.out
        have HL := Lib.hid hl
        have HEN := Lib.hid hEnc
        have HAT := Lib.hid hAt
        clear hEnc hAt hl HX hp ha
        by_cases hst : S < I
        · as_aux_lemma =>
            go_wp2_with fail
            go_still_tail 10, (by kernel_rfl)
            change wpList _ _ _ _ _ wr.drew
            have hbb' : BB B b L wr.drew := hbb
            have hAT' : EncAt wr.drew q b := HAT.out
            have hbw' : Below B w wr.drew := ⟨hbw.os, hbw.tape, hbw.output, hbw.size, hbw.block⟩
            have c0' := hAT'.cell
            generalize wr.drew = wd at *
            clear hbb HAT hbw c0
            go_wp2_with fail
            refine (bbk_WriteString B b q L (s.extract S I) _ hq hbb' (by have := HLEN.out; have := HL.out; omega)).mono ?_
            rintro e w2 ⟨rfl, h3, b3, k3⟩
            have a3 := hAT'.stays k3
            have c3 := a3.cell
            have w3 := hbw'.trans b3
            clear c0' k3 hAT' hbb' hbw' b3
            go_wp2_with fail
            refine (bbk_WriteString B b q (L ++ (s.extract S I).data.toList) ⟨#[92, 114]⟩ _ hq h3 (by have := HLEN.out; have := HL.out; simp only [List.length_append, List.length_cons, List.length_nil] at this ⊢; have e : (escT 13).length = 2 := rfl; omega)).mono ?_
            rintro e w10 ⟨rfl, h10, b10, k10⟩
            have a10 := a3.stays k10
            have v10 := w3.trans b10
            have c10 := a10.cell
            clear k10 b10 h3 a3 w3
            go_wp2_with fail
            go_roundw
            case rel => exact ⟨I + 1, I + 1, by go_num, by go_num, _, HEN.out.flush hlt HTK.out, by simpa [escT] using h10, a10, v10⟩
            case measure => simp [intOf]; omega
        · as_aux_lemma =>
            obtain rfl : I = S := by omega
            go_wp2_with fail
            refine (bbk_WriteString B b q (L) ⟨#[92, 114]⟩ _ hq hbb (by have := HLEN.out; have := HL.out; simp only [List.length_cons, List.length_nil] at this ⊢; have e : (escT 13).length = 2 := rfl; omega)).mono ?_
            rintro e w10 ⟨rfl, h10, b10, k10⟩
            have a10 := HAT.out.stays k10
            have v10 := hbw.trans b10
            have c10 := a10.cell
            clear k10 b10 hbb hbw
            go_wp2_with fail
            go_roundw
            case rel => exact ⟨I + 1, I + 1, by go_num, by go_num, _, HEN.out.flush0 hlt HTK.out, by simpa [escT] using h10, a10, v10⟩
            case measure => simp [intOf]; omega
      · -- 9
        have HTK := Lib.hid (show tok s I = (escT 9, 1) from by unfold tok; rw [HX.out, if_pos (by decide), if_neg (by decide)])
        have hl := hEnc.len2 hlt HTK.out
        have HL := Lib.hid hl
        have HEN := Lib.hid hEnc
        have HAT := Lib.hid hAt
        clear hEnc hAt hl HX hp ha
        by_cases hst : S < I
        · as_aux_lemma =>
            go_wp2_with fail
            go_still_tail 10, (by kernel_rfl)
            change wpList _ _ _ _ _ wr.drew
            have hbb' : BB B b L wr.drew := hbb
            have hAT' : EncAt wr.drew q b := HAT.out
            have hbw' : Below B w wr.drew := ⟨hbw.os, hbw.tape, hbw.output, hbw.size, hbw.block⟩
            have c0' := hAT'.cell
            generalize wr.drew = wd at *
            clear hbb HAT hbw c0
            go_wp2_with fail
            refine (bbk_WriteString B b q L (s.extract S I) _ hq hbb' (by have := HLEN.out; have := HL.out; omega)).mono ?_
            rintro e w2 ⟨rfl, h3, b3, k3⟩
            have a3 := hAT'.stays k3
            have c3 := a3.cell
            have w3 := hbw'.trans b3
            clear c0' k3 hAT' hbb' hbw' b3
            go_wp2_with fail
            refine (bbk_WriteString B b q (L ++ (s.extract S I).data.toList) ⟨#[92, 116]⟩ _ hq h3 (by have := HLEN.out; have := HL.out; simp only [List.length_append, List.length_cons, List.length_nil] at this ⊢; have e : (escT 9).length = 2 := rfl; omega)).mono ?_
            rintro e w10 ⟨rfl, h10, b10, k10⟩
            have a10 := a3.stays k10
            have v10 := w3.trans b10
            have c10 := a10.cell
            clear k10 b10 h3 a3 w3
            go_wp2_with fail
            go_roundw
            case rel => exact ⟨I + 1, I + 1, by go_num, by go_num, _, HEN.out.flush hlt HTK.out, by simpa [escT] using h10, a10, v10⟩
            case measure => simp [intOf]; omega
        · as_aux_lemma =>
            obtain rfl : I = S := by omega
            go_wp2_with fail
            refine (bbk_WriteString B b q (L) ⟨#[92, 116]⟩ _ hq hbb (by have := HLEN.out; have := HL.out; simp only [List.length_cons, List.length_nil] at this ⊢; have e : (escT 9).length = 2 := rfl; omega)).mono ?_
            rintro e w10 ⟨rfl, h10, b10, k10⟩
            have a10 := HAT.out.stays k10
            have v10 := hbw.trans b10
            have c10 := a10.cell
            clear k10 b10 hbb hbw
            go_wp2_with fail
            go_roundw
            case rel => exact ⟨I + 1, I + 1, by go_num, by go_num, _, HEN.out.flush0 hlt HTK.out, by simpa [escT] using h10, a10, v10⟩
            case measure => simp [intOf]; omega
    · -- not ASCII: decoded
      have hTB := dec_bd s I hlt
      obtain ⟨d1, d2, hdd⟩ : ∃ d1 d2, dec s I = (d1, d2) := ⟨_, _, rfl⟩
      have HD : Hid (Calls Tryd.prog 29 #[.string (s.extract I s.size)] wr fun e w' => e = .returned (.tuple #[.int .i32 (d1 : Nat), .int .i64 (d2 : Nat)]) ∧ Below wr.heap.size wr w') := Lib.hid (by
        have := Tryd.utf8_DecodeRuneInString (s.extract I s.size) wr (tabs_kept HT.out hbw h2)
        unfold dec at hdd
        rw [hdd] at this
        exact this)
      rw [hdd] at hTB
      simp only at hTB
      obtain ⟨hd1, hd2⟩ := hTB
      by_cases hbad : d1 = 65533 ∧ d2 = 1
      · have HTK := Lib.hid (show tok s I = (bad6, 1) from by unfold tok; rw [HX.out, if_neg ha, hdd, if_pos hbad])
        obtain ⟨rfl, rfl⟩ := hbad
        have hl := hEnc.len2 hlt HTK.out
        have HL := Lib.hid hl
        have HEN := Lib.hid hEnc
        have HAT0 := Lib.hid hAt
        clear hEnc hAt hl HX hdd hd1 hd2
        go_wp2_with fail
        refine HD.out.mono ?_
        rintro e wr ⟨rfl, b2⟩
        have hbb2 := hbb.below b2
        have HAT := Lib.hid (HAT0.out.below b2)
        have hbw2 := hbw.trans (b2.mono hbb.2)
        have c2 := HAT.out.cell
        clear hbb hbw c0 HAT0 HD b2
        by_cases hst : S < I
        · as_aux_lemma =>
            go_wp2_with fail
            go_still_tail 10, (by kernel_rfl)
            change wpList _ _ _ _ _ wr.drew
            have hbb' : BB B b L wr.drew := hbb2
            have hAT' : EncAt wr.drew q b := HAT.out
            have hbw' : Below B w wr.drew := ⟨hbw2.os, hbw2.tape, hbw2.output, hbw2.size, hbw2.block⟩
            have c0' := hAT'.cell
            generalize wr.drew = wd at *
            clear hbb2 HAT hbw2 c2
            go_wp2_with fail
            refine (bbk_WriteString B b q L (s.extract S I) _ hq hbb' (by have := HLEN.out; have := HL.out; omega)).mono ?_
            rintro e w2 ⟨rfl, h3, b3, k3⟩
            have a3 := hAT'.stays k3
            have c3 := a3.cell
            have w3 := hbw'.trans b3
            clear c0' k3 hAT' hbb' hbw' b3
            go_wp2_with fail
            refine (bbk_WriteString B b q (L ++ (s.extract S I).data.toList) ⟨#[92, 117, 102, 102, 102, 100]⟩ _ hq h3 (by have := HLEN.out; have := HL.out; have e : bad6.length = 6 := rfl; simp only [List.length_append, List.length_cons, List.length_nil] at this ⊢; omega)).mono ?_
            rintro e w30 ⟨rfl, h30, b30, k30⟩
            have a30 := a3.stays k30
            have v30 := w3.trans b30
            clear k30 b30 h3 a3 w3 c3
            go_wp2_with fail
            go_roundw
            case rel => exact ⟨I + 1, I + 1, by go_num, by go_num, _, HEN.out.flush hlt HTK.out, h30, a30, v30⟩
            case measure => simp [intOf]; omega
        · as_aux_lemma =>
            obtain rfl : I = S := by omega
            go_wp2_with fail
            refine (bbk_WriteString B b q L ⟨#[92, 117, 102, 102, 102, 100]⟩ _ hq hbb2 (by have := HLEN.out; have := HL.out; have e : bad6.length = 6 := rfl; simp only [List.length_cons, List.length_nil] at this ⊢; omega)).mono ?_
            rintro e w30 ⟨rfl, h30, b30, k30⟩
            have a30 := HAT.out.stays k30
            have v30 := hbw2.trans b30
            clear k30 b30 hbb2 hbw2 c2
            go_wp2_with fail
            go_roundw
            case rel => exact ⟨I + 1, I + 1, by go_num, by go_num, _, HEN.out.flush0 hlt HTK.out, h30, a30, v30⟩
            case measure => simp [intOf]; omega
      · have HTK := Lib.hid (show tok s I = ((s.extract I (I + d2)).data.toList, d2) from by unfold tok; rw [HX.out, if_neg ha, hdd, if_neg hbad])
        have HEN := Lib.hid hEnc
        have HAT0 := Lib.hid hAt
        clear hEnc hAt HX hdd
        by_cases hd : d1 = 65533
        · have f1 : ((d1 : Int) == 65533) = true := by simp; omega
          have f2 : ((d2 : Int) == 1) = false := by simp; omega
          clear hd hbad
          as_aux_lemma =>
            go_wp2_with fail
            refine HD.out.mono ?_
            rintro e wq ⟨rfl, b2⟩
            have hbb2 := hbb.below b2
            have hbw2 := hbw.trans (b2.mono hbb.2)
            have a2 := HAT0.out.below b2
            clear hbb hbw c0 HAT0 HD b2
            go_wp2_with fail
            go_roundw
            case rel => exact ⟨I + d2, S, by go_num, by go_num, L, HEN.out.plain hlt HTK.out, hbb2, a2, hbw2⟩
            case measure => simp [intOf]; omega
        · have f1 : ((d1 : Int) == 65533) = false := by simp; omega
          clear hd hbad
          as_aux_lemma =>
            go_wp2_with fail
            refine HD.out.mono ?_
            rintro e wq ⟨rfl, b2⟩
            have hbb2 := hbb.below b2
            have hbw2 := hbw.trans (b2.mono hbb.2)
            have a2 := HAT0.out.below b2
            clear hbb hbw c0 HAT0 HD b2
            go_wp2_with fail
            go_roundw
            case rel => exact ⟨I + d2, S, by go_num, by go_num, L, HEN.out.plain hlt HTK.out, hbb2, a2, hbw2⟩
            case measure => simp [intOf]; omega
end Go.Proofs.YtinhadafmlplaaaDoor
