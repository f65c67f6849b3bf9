/- The walk of FnForeachAsPipeHeadPrintsSame: it returns true, whatever the arguments. -/
import Derived.Test.YtboekgedfhdaaaaDoorRL
set_option linter.unusedVariables false
namespace Go.Proofs.YtboekgedfhdaaaaDoor
open Go.Shelf Go.RowKit


set_option maxRecDepth 100000 in
set_option maxHeartbeats 2000000 in
theorem rlaw6_n (aq : Option Addr) (nq cq : Nat) (fq : Nat → ByteArray) (pn : ByteArray) (apa : Option Addr) (npa cpa : Nat) (fpa : Nat → ByteArray) (ast : Option Addr) (nst cst : Nat) (fst : Nat → ByteArray) (aup : Option Addr) (nup cup : Nat) (fup : Nat → ByteArray) (aex : Option Addr) (nex cex : Nat) (fex : Nat → ByteArray) (tl : ByteArray) (w : World) (mq : nq ≤ 9223372036854775807) (zq : SzOk fq nq) (hq : StrIn w aq nq cq fq) (mpn : pn.size ≤ 9223372036854775807) (mpa : npa ≤ 9223372036854775807) (zpa : SzOk fpa npa) (hpa : StrIn w apa npa cpa fpa) (mst : nst ≤ 9223372036854775807) (zst : SzOk fst nst) (hst : StrIn w ast nst cst fst) (mup : nup ≤ 9223372036854775807) (zup : SzOk fup nup) (hup : StrIn w aup nup cup fup) (mex : nex ≤ 9223372036854775807) (zex : SzOk fex nex) (hex : StrIn w aex nex cex fex) (mtl : tl.size ≤ 9223372036854775807) :
    Calls Tryd.prog 6 #[.slice aq nq cq, .string pn, .slice apa npa cpa, .slice ast nst cst, .slice aup nup cup, .slice aex nex cex, .bool false, .string tl] w fun e w' => e = .returned (.bool true) ∧ Below w.heap.size w w' := by
  have ZB := Lib.hid (zzb_FnForeachAsPipeHeadPrintsSame aq nq cq fq pn apa npa cpa fpa ast nst cst fst aup nup cup fup aex nex cex fex false tl w mq zq hq mpn mpa zpa hpa mst zst hst mup zup hup mex zex hex mtl)
  clear zq zpa zst zup zex
  go_enter Tryd.func6, Tryd.ntmps6
  go_wp2_with fail
  refine ZB.out.mono ?_
  rintro e w1 ⟨⟨r, rfl, hr⟩, rfl⟩
  clear ZB
  cases r
  · go_wp2_with fail
    go_ret
    exact ⟨rfl, Below.refl _ _⟩
  have HR := Lib.hid (hr rfl)
  clear hr
  go_wp2_with fail
  refine (bad_any aq nq cq apa npa cpa ast nst cst aup nup cup aex nex cex  _ (by have := HR.out; omega) (by have := HR.out; omega) (by have := HR.out; omega) (by have := HR.out; omega) (by have := HR.out; omega)).mono ?_
  rintro e w1 ⟨⟨r, rfl, hr⟩, rfl⟩
  cases r
  rotate_left
  · go_wp2_with fail
    go_ret
    exact ⟨rfl, Below.refl _ _⟩
  obtain ⟨lq, lpa, lst, lup, lex⟩ := hr rfl
  go_wp2_with fail
  refine (totalBytes_any aq nq cq fq apa npa cpa fpa ast nst cst fst aup nup cup fup aex nex cex fex  _ (by have := HR.out; omega) hq (by have := HR.out; omega) hpa (by have := HR.out; omega) hst (by have := HR.out; omega) hup (by have := HR.out; omega) hex ).mono ?_
  rintro e w1 ⟨rfl, rfl⟩
  have TB : totB nq npa nst nup nex fq fpa fst fup fex ≤ 1099511627776 := by have := HR.out; unfold totB; omega
  have spn : pn.size ≤ 1048576 := by have := HR.out; omega 
  have stl : tl.size ≤ 1048576 := by have := HR.out; omega
  have uq := Lib.hid (show tot fq nq ≤ 1048576 by have := HR.out; omega)
  have upa := Lib.hid (show tot fpa npa ≤ 1048576 by have := HR.out; omega)
  have ust := Lib.hid (show tot fst nst ≤ 1048576 by have := HR.out; omega)
  have uup := Lib.hid (show tot fup nup ≤ 1048576 by have := HR.out; omega)
  have uex := Lib.hid (show tot fex nex ≤ 1048576 by have := HR.out; omega)
  clear HR
  generalize totB nq npa nst nup nex fq fpa fst fup fex = TT at *
  by_cases ht : TT + pn.size + tl.size ≤ 1048576
  rotate_left
  · go_wp2_with fail
    go_ret
    exact ⟨rfl, Below.refl _ _⟩
  go_wp2_with fail
  refine (clone_any aq nq cq fq _ (by omega) hq).mono ?_
  rintro e v0 ⟨⟨dq, rfl, kq⟩, bb0⟩
  have B0 : Below w.heap.size w v0 := bb0
  clear bb0 hq
  go_wp2_with fail
  refine (clone_any apa npa cpa fpa _ (by omega) (hpa.below B0)).mono ?_
  rintro e v1 ⟨⟨dpa, rfl, kpa⟩, bb1⟩
  have B1 : Below w.heap.size w v1 := B0.trans (bb1.mono B0.size)
  have kq := kq.below bb1
  clear bb1 hpa B0
  go_wp2_with fail
  refine (clone_any ast nst cst fst _ (by omega) (hst.below B1)).mono ?_
  rintro e v2 ⟨⟨dst, rfl, kst⟩, bb2⟩
  have B2 : Below w.heap.size w v2 := B1.trans (bb2.mono B1.size)
  have kq := kq.below bb2
  have kpa := kpa.below bb2
  clear bb2 hst B1
  go_wp2_with fail
  refine (clone_any aup nup cup fup _ (by omega) (hup.below B2)).mono ?_
  rintro e v3 ⟨⟨dup, rfl, kup⟩, bb3⟩
  have B3 : Below w.heap.size w v3 := B2.trans (bb3.mono B2.size)
  have kq := kq.below bb3
  have kpa := kpa.below bb3
  have kst := kst.below bb3
  clear bb3 hup B2
  go_wp2_with fail
  refine (clone_any aex nex cex fex _ (by omega) (hex.below B3)).mono ?_
  rintro e v4 ⟨⟨dex, rfl, kex⟩, bb4⟩
  have B4 : Below w.heap.size w v4 := B3.trans (bb4.mono B3.size)
  have kq := kq.below bb4
  have kpa := kpa.below bb4
  have kst := kst.below bb4
  have kup := kup.below bb4
  clear bb4 hex B3
  have BV := B4
  clear B4
  have Mq : nq ≤ 65536 := by omega
  have Mpa : npa ≤ 65536 := by omega
  have Mst : nst ≤ 65536 := by omega
  have Mup : nup ≤ 65536 := by omega
  have Mex : nex ≤ 65536 := by omega
  go_wp2_with fail
  refine (buildForeach_bare dq nq nq fq pn dpa npa npa fpa dst nst nst fst dup nup nup fup _ _ _ _ Mq uq.out (kq) Mpa upa.out (kpa) Mst ust.out (kst) Mup uup.out (kup)).mono ?_
  rintro e x1 ⟨q1, rfl, PR, y1⟩
  have B1 := BV.trans (y1.mono BV.size)
  have LN := (redT_len nq npa nst nup fq fpa fst fup pn spn Mq uq.out Mpa upa.out Mst ust.out Mup uup.out).2
  go_wp2_with fail
  refine calls_name fun W hW => ?_
  have hB : Below x1.heap.size x1 W := by rw [hW]; repeat' (first | exact Below.refl _ _ | (refine Below.setCell ?_ (by simp) _) | (refine Below.alloc ?_ (by first | (simp; done) | (simp; omega)) _))
  have hz : x1.heap.size + 2 ≤ W.heap.size := by rw [hW]; simp
  have PT := term_foreach W x1.heap.size ⟨q1, 0, none⟩ _ (by omega) (by rw [hW]; simp [go_sem]) (by rw [hW]; simp [go_sem]) (by rw [hW]; simp [go_sem]) (PR.later hB)
  have PQ := query_term W (x1.heap.size + 1) ⟨x1.heap.size, 0, none⟩ _ (by omega) (by rw [hW]; simp [go_sem]) (by rw [hW]; simp [go_sem]) (by rw [hW]; simp [go_sem]) (by rw [hW]; simp [go_sem]) PT
  have PR2 := PR.later hB
  have BW := B1.trans (hB.mono B1.size)
  clear hW PR PT hB hz
  generalize hTX : forT nq npa nst nup fq fpa fst fup pn = TX at *
  clear hTX
  refine (stage_any tl _ stl).mono ?_
  rintro e x2 ⟨q2, rfl, PS, y2⟩
  have PS2 := PS.now
  have PQ2 := PQ.later y2
  have B2 := BW.trans (y2.mono BW.size)
  have PR3 := PR2.later y2
  clear PS PQ PR2
  go_wp2_with fail
  refine calls_name fun V hV => ?_
  have hB2 : Below x2.heap.size x2 V := by rw [hV]; repeat' (first | exact Below.refl _ _ | (refine Below.setCell ?_ (by simp) _) | (refine Below.alloc ?_ (by first | (simp; done) | (simp; omega)) _))
  have hz2 : x2.heap.size + 1 ≤ V.heap.size := by rw [hV]; simp
  have PP := query_bin V x2.heap.size ⟨x1.heap.size + 1, 0, none⟩ ⟨q2, 0, none⟩ 1 _ _ (by omega) (by decide) (by decide) (by rw [hV]; simp [go_sem]) (by rw [hV]; simp [go_sem]) (by rw [hV]; simp [go_sem]) (by rw [hV]; simp [go_sem]) (by rw [hV]; simp [go_sem]) (by rw [hV]; simp [go_sem]) (by rw [hV]; simp [go_sem]) (by rw [hV]; simp [go_sem]) (PQ2.later hB2) (PS2.later hB2)
  have PR4 := PR3.later hB2
  have B3 := B2.trans (hB2.mono B2.size)
  clear hV hB2 hz2 PQ2 PS2 PR3
  have LT := Lib.size_eq tl
  have FT : fBin 1 (fun _ => TX) (stageF tl) [] = TX ++ sPipe ++ tl.data.toList := by
    rw [fBin, stageF_of _ _ (gap_blank _)]
    simp [opGap, opL, sPipe]
  have FTH := Lib.hid FT
  clear FT
  have LTS : (TX ++ sPipe ++ tl.data.toList).length ≤ 1099511627776 := by have : sPipe.length = 3 := rfl; simp only [List.length_append]; omega
  generalize hTS : TX ++ sPipe ++ tl.data.toList = TS at FTH LTS
  have HTS := Lib.hid hTS
  clear hTS
  refine (query_String _ _ _ PP TS FTH.out _ (Below.refl _ _) LTS).mono ?_
  rintro e x3 ⟨rfl, y3⟩
  dsimp only
  go_wp2_with fail
  refine (foreach_String _ _ _ PR4 TX rfl _ y3 (by omega)).mono ?_
  rintro e x4 ⟨rfl, y4⟩
  dsimp only
  have SZ : (⟨TX.toArray⟩ : ByteArray).size ≤ 104857600 := by rw [Lib.size_eq]; simpa using Nat.le_trans LN (by decide)
  clear LT
  go_wp2_with fail
  go_ret
  refine ⟨ret_bool ?_, B3.trans ((y3.trans (y4.mono y3.size)).mono B3.size)⟩
  rw [← HTS.out]
  simp only [toList_app, ByteArray.toList_mk, ByteArray.toList_eq tl, beq_iff_eq]
  rfl

set_option maxRecDepth 100000 in
set_option maxHeartbeats 2000000 in
theorem rlaw6_c (aq : Option Addr) (nq cq : Nat) (fq : Nat → ByteArray) (pn : ByteArray) (apa : Option Addr) (npa cpa : Nat) (fpa : Nat → ByteArray) (ast : Option Addr) (nst cst : Nat) (fst : Nat → ByteArray) (aup : Option Addr) (nup cup : Nat) (fup : Nat → ByteArray) (aex : Option Addr) (nex cex : Nat) (fex : Nat → ByteArray) (tl : ByteArray) (w : World) (mq : nq ≤ 9223372036854775807) (zq : SzOk fq nq) (hq : StrIn w aq nq cq fq) (mpn : pn.size ≤ 9223372036854775807) (mpa : npa ≤ 9223372036854775807) (zpa : SzOk fpa npa) (hpa : StrIn w apa npa cpa fpa) (mst : nst ≤ 9223372036854775807) (zst : SzOk fst nst) (hst : StrIn w ast nst cst fst) (mup : nup ≤ 9223372036854775807) (zup : SzOk fup nup) (hup : StrIn w aup nup cup fup) (mex : nex ≤ 9223372036854775807) (zex : SzOk fex nex) (hex : StrIn w aex nex cex fex) (mtl : tl.size ≤ 9223372036854775807) :
    Calls Tryd.prog 6 #[.slice aq nq cq, .string pn, .slice apa npa cpa, .slice ast nst cst, .slice aup nup cup, .slice aex nex cex, .bool true, .string tl] w fun e w' => e = .returned (.bool true) ∧ Below w.heap.size w w' := by
  have ZB := Lib.hid (zzb_FnForeachAsPipeHeadPrintsSame aq nq cq fq pn apa npa cpa fpa ast nst cst fst aup nup cup fup aex nex cex fex true tl w mq zq hq mpn mpa zpa hpa mst zst hst mup zup hup mex zex hex mtl)
  clear zq zpa zst zup zex
  go_enter Tryd.func6, Tryd.ntmps6
  go_wp2_with fail
  refine ZB.out.mono ?_
  rintro e w1 ⟨⟨r, rfl, hr⟩, rfl⟩
  clear ZB
  cases r
  · go_wp2_with fail
    go_ret
    exact ⟨rfl, Below.refl _ _⟩
  have HR := Lib.hid (hr rfl)
  clear hr
  go_wp2_with fail
  refine (bad_any aq nq cq apa npa cpa ast nst cst aup nup cup aex nex cex  _ (by have := HR.out; omega) (by have := HR.out; omega) (by have := HR.out; omega) (by have := HR.out; omega) (by have := HR.out; omega)).mono ?_
  rintro e w1 ⟨⟨r, rfl, hr⟩, rfl⟩
  cases r
  rotate_left
  · go_wp2_with fail
    go_ret
    exact ⟨rfl, Below.refl _ _⟩
  obtain ⟨lq, lpa, lst, lup, lex⟩ := hr rfl
  go_wp2_with fail
  refine (totalBytes_any aq nq cq fq apa npa cpa fpa ast nst cst fst aup nup cup fup aex nex cex fex  _ (by have := HR.out; omega) hq (by have := HR.out; omega) hpa (by have := HR.out; omega) hst (by have := HR.out; omega) hup (by have := HR.out; omega) hex ).mono ?_
  rintro e w1 ⟨rfl, rfl⟩
  have TB : totB nq npa nst nup nex fq fpa fst fup fex ≤ 1099511627776 := by have := HR.out; unfold totB; omega
  have spn : pn.size ≤ 1048576 := by have := HR.out; omega 
  have stl : tl.size ≤ 1048576 := by have := HR.out; omega
  have uq := Lib.hid (show tot fq nq ≤ 1048576 by have := HR.out; omega)
  have upa := Lib.hid (show tot fpa npa ≤ 1048576 by have := HR.out; omega)
  have ust := Lib.hid (show tot fst nst ≤ 1048576 by have := HR.out; omega)
  have uup := Lib.hid (show tot fup nup ≤ 1048576 by have := HR.out; omega)
  have uex := Lib.hid (show tot fex nex ≤ 1048576 by have := HR.out; omega)
  clear HR
  generalize totB nq npa nst nup nex fq fpa fst fup fex = TT at *
  by_cases ht : TT + pn.size + tl.size ≤ 1048576
  rotate_left
  · go_wp2_with fail
    go_ret
    exact ⟨rfl, Below.refl _ _⟩
  go_wp2_with fail
  refine (clone_any aq nq cq fq _ (by omega) hq).mono ?_
  rintro e v0 ⟨⟨dq, rfl, kq⟩, bb0⟩
  have B0 : Below w.heap.size w v0 := bb0
  clear bb0 hq
  go_wp2_with fail
  refine (clone_any apa npa cpa fpa _ (by omega) (hpa.below B0)).mono ?_
  rintro e v1 ⟨⟨dpa, rfl, kpa⟩, bb1⟩
  have B1 : Below w.heap.size w v1 := B0.trans (bb1.mono B0.size)
  have kq := kq.below bb1
  clear bb1 hpa B0
  go_wp2_with fail
  refine (clone_any ast nst cst fst _ (by omega) (hst.below B1)).mono ?_
  rintro e v2 ⟨⟨dst, rfl, kst⟩, bb2⟩
  have B2 : Below w.heap.size w v2 := B1.trans (bb2.mono B1.size)
  have kq := kq.below bb2
  have kpa := kpa.below bb2
  clear bb2 hst B1
  go_wp2_with fail
  refine (clone_any aup nup cup fup _ (by omega) (hup.below B2)).mono ?_
  rintro e v3 ⟨⟨dup, rfl, kup⟩, bb3⟩
  have B3 : Below w.heap.size w v3 := B2.trans (bb3.mono B2.size)
  have kq := kq.below bb3
  have kpa := kpa.below bb3
  have kst := kst.below bb3
  clear bb3 hup B2
  go_wp2_with fail
  refine (clone_any aex nex cex fex _ (by omega) (hex.below B3)).mono ?_
  rintro e v4 ⟨⟨dex, rfl, kex⟩, bb4⟩
  have B4 : Below w.heap.size w v4 := B3.trans (bb4.mono B3.size)
  have kq := kq.below bb4
  have kpa := kpa.below bb4
  have kst := kst.below bb4
  have kup := kup.below bb4
  clear bb4 hex B3
  have BV := B4
  clear B4
  have Mq : nq ≤ 65536 := by omega
  have Mpa : npa ≤ 65536 := by omega
  have Mst : nst ≤ 65536 := by omega
  have Mup : nup ≤ 65536 := by omega
  have Mex : nex ≤ 65536 := by omega
  go_wp2_with fail
  refine (buildForeach_ext dq nq nq fq pn dpa npa npa fpa dst nst nst fst dup nup nup fup dex nex nex fex _ Mq uq.out (kq) Mpa upa.out (kpa) Mst ust.out (kst) Mup uup.out (kup) Mex uex.out kex).mono ?_
  rintro e x1 ⟨q1, rfl, PR, y1⟩
  have B1 := BV.trans (y1.mono BV.size)
  have LN := forX_len nq npa nst nup nex fq fpa fst fup fex pn spn Mq uq.out Mpa upa.out Mst ust.out Mup uup.out Mex uex.out
  go_wp2_with fail
  refine calls_name fun W hW => ?_
  have hB : Below x1.heap.size x1 W := by rw [hW]; repeat' (first | exact Below.refl _ _ | (refine Below.setCell ?_ (by simp) _) | (refine Below.alloc ?_ (by first | (simp; done) | (simp; omega)) _))
  have hz : x1.heap.size + 2 ≤ W.heap.size := by rw [hW]; simp
  have PT := term_foreach W x1.heap.size ⟨q1, 0, none⟩ _ (by omega) (by rw [hW]; simp [go_sem]) (by rw [hW]; simp [go_sem]) (by rw [hW]; simp [go_sem]) (PR.later hB)
  have PQ := query_term W (x1.heap.size + 1) ⟨x1.heap.size, 0, none⟩ _ (by omega) (by rw [hW]; simp [go_sem]) (by rw [hW]; simp [go_sem]) (by rw [hW]; simp [go_sem]) (by rw [hW]; simp [go_sem]) PT
  have PR2 := PR.later hB
  have BW := B1.trans (hB.mono B1.size)
  clear hW PR PT hB hz
  generalize hTX : forX nq npa nst nup nex fq fpa fst fup fex pn = TX at *
  clear hTX
  refine (stage_any tl _ stl).mono ?_
  rintro e x2 ⟨q2, rfl, PS, y2⟩
  have PS2 := PS.now
  have PQ2 := PQ.later y2
  have B2 := BW.trans (y2.mono BW.size)
  have PR3 := PR2.later y2
  clear PS PQ PR2
  go_wp2_with fail
  refine calls_name fun V hV => ?_
  have hB2 : Below x2.heap.size x2 V := by rw [hV]; repeat' (first | exact Below.refl _ _ | (refine Below.setCell ?_ (by simp) _) | (refine Below.alloc ?_ (by first | (simp; done) | (simp; omega)) _))
  have hz2 : x2.heap.size + 1 ≤ V.heap.size := by rw [hV]; simp
  have PP := query_bin V x2.heap.size ⟨x1.heap.size + 1, 0, none⟩ ⟨q2, 0, none⟩ 1 _ _ (by omega) (by decide) (by decide) (by rw [hV]; simp [go_sem]) (by rw [hV]; simp [go_sem]) (by rw [hV]; simp [go_sem]) (by rw [hV]; simp [go_sem]) (by rw [hV]; simp [go_sem]) (by rw [hV]; simp [go_sem]) (by rw [hV]; simp [go_sem]) (by rw [hV]; simp [go_sem]) (PQ2.later hB2) (PS2.later hB2)
  have PR4 := PR3.later hB2
  have B3 := B2.trans (hB2.mono B2.size)
  clear hV hB2 hz2 PQ2 PS2 PR3
  have LT := Lib.size_eq tl
  have FT : fBin 1 (fun _ => TX) (stageF tl) [] = TX ++ sPipe ++ tl.data.toList := by
    rw [fBin, stageF_of _ _ (gap_blank _)]
    simp [opGap, opL, sPipe]
  have FTH := Lib.hid FT
  clear FT
  have LTS : (TX ++ sPipe ++ tl.data.toList).length ≤ 1099511627776 := by have : sPipe.length = 3 := rfl; simp only [List.length_append]; omega
  generalize hTS : TX ++ sPipe ++ tl.data.toList = TS at FTH LTS
  have HTS := Lib.hid hTS
  clear hTS
  refine (query_String _ _ _ PP TS FTH.out _ (Below.refl _ _) LTS).mono ?_
  rintro e x3 ⟨rfl, y3⟩
  dsimp only
  go_wp2_with fail
  refine (foreach_String _ _ _ PR4 TX rfl _ y3 (by omega)).mono ?_
  rintro e x4 ⟨rfl, y4⟩
  dsimp only
  have SZ : (⟨TX.toArray⟩ : ByteArray).size ≤ 104857600 := by rw [Lib.size_eq]; simpa using Nat.le_trans LN (by decide)
  clear LT
  go_wp2_with fail
  go_ret
  refine ⟨ret_bool ?_, B3.trans ((y3.trans (y4.mono y3.size)).mono B3.size)⟩
  rw [← HTS.out]
  simp only [toList_app, ByteArray.toList_mk, ByteArray.toList_eq tl, beq_iff_eq]
  rfl

theorem rlaw6 (aq : Option Addr) (nq cq : Nat) (fq : Nat → ByteArray) (pn : ByteArray) (apa : Option Addr) (npa cpa : Nat) (fpa : Nat → ByteArray) (ast : Option Addr) (nst cst : Nat) (fst : Nat → ByteArray) (aup : Option Addr) (nup cup : Nat) (fup : Nat → ByteArray) (aex : Option Addr) (nex cex : Nat) (fex : Nat → ByteArray) (hx : Bool) (tl : ByteArray) (w : World) (mq : nq ≤ 9223372036854775807) (zq : SzOk fq nq) (hq : StrIn w aq nq cq fq) (mpn : pn.size ≤ 9223372036854775807) (mpa : npa ≤ 9223372036854775807) (zpa : SzOk fpa npa) (hpa : StrIn w apa npa cpa fpa) (mst : nst ≤ 9223372036854775807) (zst : SzOk fst nst) (hst : StrIn w ast nst cst fst) (mup : nup ≤ 9223372036854775807) (zup : SzOk fup nup) (hup : StrIn w aup nup cup fup) (mex : nex ≤ 9223372036854775807) (zex : SzOk fex nex) (hex : StrIn w aex nex cex fex) (mtl : tl.size ≤ 9223372036854775807) :
    Calls Tryd.prog 6 #[.slice aq nq cq, .string pn, .slice apa npa cpa, .slice ast nst cst, .slice aup nup cup, .slice aex nex cex, .bool hx, .string tl] w fun e w' => e = .returned (.bool true) ∧ Below w.heap.size w w' := by
  cases hx
  · exact rlaw6_n aq nq cq fq pn apa npa cpa fpa ast nst cst fst aup nup cup fup aex nex cex fex tl w mq zq hq mpn mpa zpa hpa mst zst hst mup zup hup mex zex hex mtl
  · exact rlaw6_c aq nq cq fq pn apa npa cpa fpa ast nst cst fst aup nup cup fup aex nex cex fex tl w mq zq hq mpn mpa zpa hpa mst zst hst mup zup hup mex zex hex mtl
end Go.Proofs.YtboekgedfhdaaaaDoor
