/- The walk of FnReduceAsTermPrintsSame: it returns true, whatever the arguments. -/
import Derived.Test.YtboekgedfhdaaaaDoorRL
set_option linter.unusedVariables false
namespace Go.Proofs.YtboekgedfhdaaaaDoor
open Go.Shelf Go.RowKit


set_option maxRecDepth 100000 in
set_option maxHeartbeats 2000000 in
theorem rlaw9_n (aq : Option Addr) (nq cq : Nat) (fq : Nat → ByteArray) (pn : ByteArray) (apa : Option Addr) (npa cpa : Nat) (fpa : Nat → ByteArray) (ast : Option Addr) (nst cst : Nat) (fst : Nat → ByteArray) (aup : Option Addr) (nup cup : Nat) (fup : Nat → ByteArray)  (w : World) (mq : nq ≤ 9223372036854775807) (zq : SzOk fq nq) (hq : StrIn w aq nq cq fq) (mpn : pn.size ≤ 9223372036854775807) (mpa : npa ≤ 9223372036854775807) (zpa : SzOk fpa npa) (hpa : StrIn w apa npa cpa fpa) (mst : nst ≤ 9223372036854775807) (zst : SzOk fst nst) (hst : StrIn w ast nst cst fst) (mup : nup ≤ 9223372036854775807) (zup : SzOk fup nup) (hup : StrIn w aup nup cup fup) :
    Calls Tryd.prog 9 #[.slice aq nq cq, .string pn, .slice apa npa cpa, .slice ast nst cst, .slice aup nup cup, .bool false] w fun e w' => e = .returned (.bool true) ∧ Below w.heap.size w w' := by
  have ZB := Lib.hid (zzb_FnReduceAsTermPrintsSame aq nq cq fq pn apa npa cpa fpa ast nst cst fst aup nup cup fup false w mq zq hq mpn mpa zpa hpa mst zst hst mup zup hup)
  clear zq zpa zst zup
  go_enter Tryd.func9, Tryd.ntmps9
  go_wp2_with fail
  refine ZB.out.mono ?_
  rintro e w1 ⟨⟨r, rfl, hr⟩, rfl⟩
  clear ZB
  cases r
  · go_wp2_with fail
    go_ret
    exact ⟨rfl, Below.refl _ _⟩
  have HR := Lib.hid (hr rfl)
  clear hr
  go_wp2_with fail
  refine (bad_any aq nq cq apa npa cpa ast nst cst aup nup cup none 0 0 _ (by have := HR.out; omega) (by have := HR.out; omega) (by have := HR.out; omega) (by have := HR.out; omega) (by have := HR.out; omega)).mono ?_
  rintro e w1 ⟨⟨r, rfl, hr⟩, rfl⟩
  cases r
  rotate_left
  · go_wp2_with fail
    go_ret
    exact ⟨rfl, Below.refl _ _⟩
  obtain ⟨lq, lpa, lst, lup, _⟩ := hr rfl
  go_wp2_with fail
  refine (totalBytes_any aq nq cq fq apa npa cpa fpa ast nst cst fst aup nup cup fup none 0 0 (fun _ => ByteArray.empty) _ (by have := HR.out; omega) hq (by have := HR.out; omega) hpa (by have := HR.out; omega) hst (by have := HR.out; omega) hup (by simp [tot]) (StrIn.nil _ _)).mono ?_
  rintro e w1 ⟨rfl, rfl⟩
  have TB : totB nq npa nst nup 0 fq fpa fst fup (fun _ => ByteArray.empty) ≤ 1099511627776 := by have := HR.out; unfold totB; simp only [tot]; omega
  have spn : pn.size ≤ 1048576 := by have := HR.out; omega
  have uq := Lib.hid (show tot fq nq ≤ 1048576 by have := HR.out; omega)
  have upa := Lib.hid (show tot fpa npa ≤ 1048576 by have := HR.out; omega)
  have ust := Lib.hid (show tot fst nst ≤ 1048576 by have := HR.out; omega)
  have uup := Lib.hid (show tot fup nup ≤ 1048576 by have := HR.out; omega)
  clear HR
  generalize totB nq npa nst nup 0 fq fpa fst fup (fun _ => ByteArray.empty) = TT at *
  by_cases ht : TT + pn.size ≤ 1048576
  rotate_left
  · go_wp2_with fail
    go_ret
    exact ⟨rfl, Below.refl _ _⟩
  go_wp2_with fail
  refine (clone_any aq nq cq fq _ (by omega) hq).mono ?_
  rintro e v0 ⟨⟨dq, rfl, kq⟩, bb0⟩
  have B0 : Below w.heap.size w v0 := bb0
  clear bb0 hq
  go_wp2_with fail
  refine (clone_any apa npa cpa fpa _ (by omega) (hpa.below B0)).mono ?_
  rintro e v1 ⟨⟨dpa, rfl, kpa⟩, bb1⟩
  have B1 : Below w.heap.size w v1 := B0.trans (bb1.mono B0.size)
  have kq := kq.below bb1
  clear bb1 hpa B0
  go_wp2_with fail
  refine (clone_any ast nst cst fst _ (by omega) (hst.below B1)).mono ?_
  rintro e v2 ⟨⟨dst, rfl, kst⟩, bb2⟩
  have B2 : Below w.heap.size w v2 := B1.trans (bb2.mono B1.size)
  have kq := kq.below bb2
  have kpa := kpa.below bb2
  clear bb2 hst B1
  go_wp2_with fail
  refine (clone_any aup nup cup fup _ (by omega) (hup.below B2)).mono ?_
  rintro e v3 ⟨⟨dup, rfl, kup⟩, bb3⟩
  have B3 : Below w.heap.size w v3 := B2.trans (bb3.mono B2.size)
  have kq := kq.below bb3
  have kpa := kpa.below bb3
  have kst := kst.below bb3
  clear bb3 hup B2
  have BV := B3
  clear B3
  have Mq : nq ≤ 65536 := by omega
  have Mpa : npa ≤ 65536 := by omega
  have Mst : nst ≤ 65536 := by omega
  have Mup : nup ≤ 65536 := by omega
  go_wp2_with fail
  refine (buildReduce_any dq nq nq fq pn dpa npa npa fpa dst nst nst fst dup nup nup fup _ Mq uq.out (kq) Mpa upa.out (kpa) Mst ust.out (kst) Mup uup.out (kup)).mono ?_
  rintro e x1 ⟨q1, rfl, PR, y1⟩
  have B1 := BV.trans (y1.mono BV.size)
  have LN := (redT_len nq npa nst nup fq fpa fst fup pn spn Mq uq.out Mpa upa.out Mst ust.out Mup uup.out).1
  go_wp2_with fail
  refine calls_name fun W hW => ?_
  have hB : Below x1.heap.size x1 W := by rw [hW]; repeat' (first | exact Below.refl _ _ | (refine Below.setCell ?_ (by simp) _) | (refine Below.alloc ?_ (by first | (simp; done) | (simp; omega)) _))
  have hz : x1.heap.size + 2 ≤ W.heap.size := by rw [hW]; simp
  have PT := term_reduce W x1.heap.size ⟨q1, 0, none⟩ _ (by omega) (by rw [hW]; simp [go_sem]) (by rw [hW]; simp [go_sem]) (by rw [hW]; simp [go_sem]) (PR.later hB)
  have PQ := query_term W (x1.heap.size + 1) ⟨x1.heap.size, 0, none⟩ _ (by omega) (by rw [hW]; simp [go_sem]) (by rw [hW]; simp [go_sem]) (by rw [hW]; simp [go_sem]) (by rw [hW]; simp [go_sem]) PT
  have PR2 := PR.later hB
  have BW := B1.trans (hB.mono B1.size)
  clear hW PR PT
  generalize hTX : redT nq npa nst nup fq fpa fst fup pn = TX at *
  clear hTX
  refine (query_String _ _ _ PQ TX rfl _ (Below.refl _ _) (by omega)).mono ?_
  rintro e x2 ⟨rfl, y2⟩
  go_wp2_with fail
  refine (reduce_String _ _ _ PR2 TX rfl _ y2 (by omega)).mono ?_
  rintro e x3 ⟨rfl, y3⟩
  have SZ : (⟨TX.toArray⟩ : ByteArray).size ≤ 104857600 := by rw [Lib.size_eq]; simpa using Nat.le_trans LN (by decide)
  go_wp2_with fail
  go_ret
  refine ⟨ret_bool ?_, BW.trans ((y2.trans (y3.mono y2.size)).mono BW.size)⟩
  simp

set_option maxRecDepth 100000 in
set_option maxHeartbeats 2000000 in
theorem rlaw9_c (aq : Option Addr) (nq cq : Nat) (fq : Nat → ByteArray) (pn : ByteArray) (apa : Option Addr) (npa cpa : Nat) (fpa : Nat → ByteArray) (ast : Option Addr) (nst cst : Nat) (fst : Nat → ByteArray) (aup : Option Addr) (nup cup : Nat) (fup : Nat → ByteArray)  (w : World) (mq : nq ≤ 9223372036854775807) (zq : SzOk fq nq) (hq : StrIn w aq nq cq fq) (mpn : pn.size ≤ 9223372036854775807) (mpa : npa ≤ 9223372036854775807) (zpa : SzOk fpa npa) (hpa : StrIn w apa npa cpa fpa) (mst : nst ≤ 9223372036854775807) (zst : SzOk fst nst) (hst : StrIn w ast nst cst fst) (mup : nup ≤ 9223372036854775807) (zup : SzOk fup nup) (hup : StrIn w aup nup cup fup) :
    Calls Tryd.prog 9 #[.slice aq nq cq, .string pn, .slice apa npa cpa, .slice ast nst cst, .slice aup nup cup, .bool true] w fun e w' => e = .returned (.bool true) ∧ Below w.heap.size w w' := by
  have ZB := Lib.hid (zzb_FnReduceAsTermPrintsSame aq nq cq fq pn apa npa cpa fpa ast nst cst fst aup nup cup fup true w mq zq hq mpn mpa zpa hpa mst zst hst mup zup hup)
  clear zq zpa zst zup
  go_enter Tryd.func9, Tryd.ntmps9
  go_wp2_with fail
  refine ZB.out.mono ?_
  rintro e w1 ⟨⟨r, rfl, hr⟩, rfl⟩
  clear ZB
  cases r
  · go_wp2_with fail
    go_ret
    exact ⟨rfl, Below.refl _ _⟩
  have HR := Lib.hid (hr rfl)
  clear hr
  go_wp2_with fail
  refine (bad_any aq nq cq apa npa cpa ast nst cst aup nup cup none 0 0 _ (by have := HR.out; omega) (by have := HR.out; omega) (by have := HR.out; omega) (by have := HR.out; omega) (by have := HR.out; omega)).mono ?_
  rintro e w1 ⟨⟨r, rfl, hr⟩, rfl⟩
  cases r
  rotate_left
  · go_wp2_with fail
    go_ret
    exact ⟨rfl, Below.refl _ _⟩
  obtain ⟨lq, lpa, lst, lup, _⟩ := hr rfl
  go_wp2_with fail
  refine (totalBytes_any aq nq cq fq apa npa cpa fpa ast nst cst fst aup nup cup fup none 0 0 (fun _ => ByteArray.empty) _ (by have := HR.out; omega) hq (by have := HR.out; omega) hpa (by have := HR.out; omega) hst (by have := HR.out; omega) hup (by simp [tot]) (StrIn.nil _ _)).mono ?_
  rintro e w1 ⟨rfl, rfl⟩
  have TB : totB nq npa nst nup 0 fq fpa fst fup (fun _ => ByteArray.empty) ≤ 1099511627776 := by have := HR.out; unfold totB; simp only [tot]; omega
  have spn : pn.size ≤ 1048576 := by have := HR.out; omega
  have uq := Lib.hid (show tot fq nq ≤ 1048576 by have := HR.out; omega)
  have upa := Lib.hid (show tot fpa npa ≤ 1048576 by have := HR.out; omega)
  have ust := Lib.hid (show tot fst nst ≤ 1048576 by have := HR.out; omega)
  have uup := Lib.hid (show tot fup nup ≤ 1048576 by have := HR.out; omega)
  clear HR
  generalize totB nq npa nst nup 0 fq fpa fst fup (fun _ => ByteArray.empty) = TT at *
  by_cases ht : TT + pn.size ≤ 1048576
  rotate_left
  · go_wp2_with fail
    go_ret
    exact ⟨rfl, Below.refl _ _⟩
  go_wp2_with fail
  refine (clone_any aq nq cq fq _ (by omega) hq).mono ?_
  rintro e v0 ⟨⟨dq, rfl, kq⟩, bb0⟩
  have B0 : Below w.heap.size w v0 := bb0
  clear bb0 hq
  go_wp2_with fail
  refine (clone_any apa npa cpa fpa _ (by omega) (hpa.below B0)).mono ?_
  rintro e v1 ⟨⟨dpa, rfl, kpa⟩, bb1⟩
  have B1 : Below w.heap.size w v1 := B0.trans (bb1.mono B0.size)
  have kq := kq.below bb1
  clear bb1 hpa B0
  go_wp2_with fail
  refine (clone_any ast nst cst fst _ (by omega) (hst.below B1)).mono ?_
  rintro e v2 ⟨⟨dst, rfl, kst⟩, bb2⟩
  have B2 : Below w.heap.size w v2 := B1.trans (bb2.mono B1.size)
  have kq := kq.below bb2
  have kpa := kpa.below bb2
  clear bb2 hst B1
  go_wp2_with fail
  refine (clone_any aup nup cup fup _ (by omega) (hup.below B2)).mono ?_
  rintro e v3 ⟨⟨dup, rfl, kup⟩, bb3⟩
  have B3 : Below w.heap.size w v3 := B2.trans (bb3.mono B2.size)
  have kq := kq.below bb3
  have kpa := kpa.below bb3
  have kst := kst.below bb3
  clear bb3 hup B2
  have BV := B3
  clear B3
  have Mq : nq ≤ 65536 := by omega
  have Mpa : npa ≤ 65536 := by omega
  have Mst : nst ≤ 65536 := by omega
  have Mup : nup ≤ 65536 := by omega
  go_wp2_with fail
  refine (buildReduce_any dq nq nq fq pn dpa npa npa fpa dst nst nst fst dup nup nup fup _ Mq uq.out (kq) Mpa upa.out (kpa) Mst ust.out (kst) Mup uup.out (kup)).mono ?_
  rintro e x1 ⟨q1, rfl, PR, y1⟩
  have B1 := BV.trans (y1.mono BV.size)
  have LN := (redT_len nq npa nst nup fq fpa fst fup pn spn Mq uq.out Mpa upa.out Mst ust.out Mup uup.out).1
  go_wp2_with fail
  refine calls_name fun W hW => ?_
  have hB : Below x1.heap.size x1 W := by rw [hW]; repeat' (first | exact Below.refl _ _ | (refine Below.setCell ?_ (by simp) _) | (refine Below.alloc ?_ (by first | (simp; done) | (simp; omega)) _))
  have hz : x1.heap.size + 4 ≤ W.heap.size := by rw [hW]; simp
  have PT := term_reduce_iter W x1.heap.size ⟨q1, 0, none⟩ _ (by omega) (x1.heap.size + 2) 1 (x1.heap.size + 1) (by omega) (by rw [hW]; simp [go_sem]) (suffix_iter W (x1.heap.size + 1) (by omega) (by rw [hW]; simp [go_sem]) (by rw [hW]; simp [go_sem])) (by rw [hW]; simp [go_sem]) (by rw [hW]; simp [go_sem]) (by rw [hW]; simp [go_sem]) (PR.later hB)
  have PQ := query_term W (x1.heap.size + 3) ⟨x1.heap.size, 0, none⟩ _ (by omega) (by rw [hW]; simp [go_sem]) (by rw [hW]; simp [go_sem]) (by rw [hW]; simp [go_sem]) (by rw [hW]; simp [go_sem]) PT
  have PR2 := PR.later hB
  have BW := B1.trans (hB.mono B1.size)
  clear hW PR PT
  generalize hTX : redT nq npa nst nup fq fpa fst fup pn = TX at *
  clear hTX
  refine (query_String _ _ _ PQ (TX ++ [91, 93]) rfl _ (Below.refl _ _) (by simp only [List.length_append, List.length_cons, List.length_nil]; omega)).mono ?_
  rintro e x2 ⟨rfl, y2⟩
  go_wp2_with fail
  refine (reduce_String _ _ _ PR2 TX rfl _ y2 (by omega)).mono ?_
  rintro e x3 ⟨rfl, y3⟩
  have SZ : (⟨TX.toArray⟩ : ByteArray).size ≤ 104857600 := by rw [Lib.size_eq]; simpa using Nat.le_trans LN (by decide)
  go_wp2_with fail
  go_ret
  refine ⟨ret_bool ?_, BW.trans ((y2.trans (y3.mono y2.size)).mono BW.size)⟩
  simp only [toList_app, ByteArray.toList_mk, beq_iff_eq]

theorem rlaw9 (aq : Option Addr) (nq cq : Nat) (fq : Nat → ByteArray) (pn : ByteArray) (apa : Option Addr) (npa cpa : Nat) (fpa : Nat → ByteArray) (ast : Option Addr) (nst cst : Nat) (fst : Nat → ByteArray) (aup : Option Addr) (nup cup : Nat) (fup : Nat → ByteArray) (it : Bool) (w : World) (mq : nq ≤ 9223372036854775807) (zq : SzOk fq nq) (hq : StrIn w aq nq cq fq) (mpn : pn.size ≤ 9223372036854775807) (mpa : npa ≤ 9223372036854775807) (zpa : SzOk fpa npa) (hpa : StrIn w apa npa cpa fpa) (mst : nst ≤ 9223372036854775807) (zst : SzOk fst nst) (hst : StrIn w ast nst cst fst) (mup : nup ≤ 9223372036854775807) (zup : SzOk fup nup) (hup : StrIn w aup nup cup fup) :
    Calls Tryd.prog 9 #[.slice aq nq cq, .string pn, .slice apa npa cpa, .slice ast nst cst, .slice aup nup cup, .bool it] w fun e w' => e = .returned (.bool true) ∧ Below w.heap.size w w' := by
  cases it
  · exact rlaw9_n aq nq cq fq pn apa npa cpa fpa ast nst cst fst aup nup cup fup w mq zq hq mpn mpa zpa hpa mst zst hst mup zup hup
  · exact rlaw9_c aq nq cq fq pn apa npa cpa fpa ast nst cst fst aup nup cup fup w mq zq hq mpn mpa zpa hpa mst zst hst mup zup hup
end Go.Proofs.YtboekgedfhdaaaaDoor
