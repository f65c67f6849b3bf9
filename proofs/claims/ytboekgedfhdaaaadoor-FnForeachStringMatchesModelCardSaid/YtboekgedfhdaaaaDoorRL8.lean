/- The walk of FnForeachStringMatchesModel: it returns true, whatever the arguments. -/
import Derived.Test.YtboekgedfhdaaaaDoorRL
set_option linter.unusedVariables false
namespace Go.Proofs.YtboekgedfhdaaaaDoor
open Go.Shelf Go.RowKit


set_option maxRecDepth 100000 in
set_option maxHeartbeats 2000000 in
theorem rlaw8_n (aq : Option Addr) (nq cq : Nat) (fq : Nat → ByteArray) (pn : ByteArray) (apa : Option Addr) (npa cpa : Nat) (fpa : Nat → ByteArray) (ast : Option Addr) (nst cst : Nat) (fst : Nat → ByteArray) (aup : Option Addr) (nup cup : Nat) (fup : Nat → ByteArray) (aex : Option Addr) (nex cex : Nat) (fex : Nat → ByteArray)  (w : World) (mq : nq ≤ 9223372036854775807) (zq : SzOk fq nq) (hq : StrIn w aq nq cq fq) (mpn : pn.size ≤ 9223372036854775807) (mpa : npa ≤ 9223372036854775807) (zpa : SzOk fpa npa) (hpa : StrIn w apa npa cpa fpa) (mst : nst ≤ 9223372036854775807) (zst : SzOk fst nst) (hst : StrIn w ast nst cst fst) (mup : nup ≤ 9223372036854775807) (zup : SzOk fup nup) (hup : StrIn w aup nup cup fup) (mex : nex ≤ 9223372036854775807) (zex : SzOk fex nex) (hex : StrIn w aex nex cex fex) :
    Calls Tryd.prog 8 #[.slice aq nq cq, .string pn, .slice apa npa cpa, .slice ast nst cst, .slice aup nup cup, .slice aex nex cex, .bool false] w fun e w' => e = .returned (.bool true) ∧ Below w.heap.size w w' := by
  have ZB := Lib.hid (zzb_FnForeachStringMatchesModel aq nq cq fq pn apa npa cpa fpa ast nst cst fst aup nup cup fup aex nex cex fex false w mq zq hq mpn mpa zpa hpa mst zst hst mup zup hup mex zex hex)
  clear zq zpa zst zup zex
  go_enter Tryd.func8, Tryd.ntmps8
  go_wp2_with fail
  refine ZB.out.mono ?_
  rintro e w1 ⟨⟨r, rfl, hr⟩, rfl⟩
  clear ZB
  cases r
  · go_wp2_with fail
    go_ret
    exact ⟨rfl, Below.refl _ _⟩
  have HR := Lib.hid (hr rfl)
  clear hr
  go_wp2_with fail
  refine (bad_any aq nq cq apa npa cpa ast nst cst aup nup cup aex nex cex  _ (by have := HR.out; omega) (by have := HR.out; omega) (by have := HR.out; omega) (by have := HR.out; omega) (by have := HR.out; omega)).mono ?_
  rintro e w1 ⟨⟨r, rfl, hr⟩, rfl⟩
  cases r
  rotate_left
  · go_wp2_with fail
    go_ret
    exact ⟨rfl, Below.refl _ _⟩
  obtain ⟨lq, lpa, lst, lup, lex⟩ := hr rfl
  go_wp2_with fail
  refine (totalBytes_any aq nq cq fq apa npa cpa fpa ast nst cst fst aup nup cup fup aex nex cex fex  _ (by have := HR.out; omega) hq (by have := HR.out; omega) hpa (by have := HR.out; omega) hst (by have := HR.out; omega) hup (by have := HR.out; omega) hex ).mono ?_
  rintro e w1 ⟨rfl, rfl⟩
  have TB : totB nq npa nst nup nex fq fpa fst fup fex ≤ 1099511627776 := by have := HR.out; unfold totB; omega
  have spn : pn.size ≤ 1048576 := by have := HR.out; omega
  have uq := Lib.hid (show tot fq nq ≤ 1048576 by have := HR.out; omega)
  have upa := Lib.hid (show tot fpa npa ≤ 1048576 by have := HR.out; omega)
  have ust := Lib.hid (show tot fst nst ≤ 1048576 by have := HR.out; omega)
  have uup := Lib.hid (show tot fup nup ≤ 1048576 by have := HR.out; omega)
  have uex := Lib.hid (show tot fex nex ≤ 1048576 by have := HR.out; omega)
  clear HR
  generalize totB nq npa nst nup nex fq fpa fst fup fex = TT at *
  by_cases ht : TT + pn.size ≤ 1048576
  rotate_left
  · go_wp2_with fail
    go_ret
    exact ⟨rfl, Below.refl _ _⟩
  go_wp2_with fail
  refine (clone_any aq nq cq fq _ (by omega) hq).mono ?_
  rintro e v0 ⟨⟨dq, rfl, kq⟩, bb0⟩
  have B0 : Below w.heap.size w v0 := bb0
  clear bb0 hq
  go_wp2_with fail
  refine (clone_any apa npa cpa fpa _ (by omega) (hpa.below B0)).mono ?_
  rintro e v1 ⟨⟨dpa, rfl, kpa⟩, bb1⟩
  have B1 : Below w.heap.size w v1 := B0.trans (bb1.mono B0.size)
  have kq := kq.below bb1
  clear bb1 hpa B0
  go_wp2_with fail
  refine (clone_any ast nst cst fst _ (by omega) (hst.below B1)).mono ?_
  rintro e v2 ⟨⟨dst, rfl, kst⟩, bb2⟩
  have B2 : Below w.heap.size w v2 := B1.trans (bb2.mono B1.size)
  have kq := kq.below bb2
  have kpa := kpa.below bb2
  clear bb2 hst B1
  go_wp2_with fail
  refine (clone_any aup nup cup fup _ (by omega) (hup.below B2)).mono ?_
  rintro e v3 ⟨⟨dup, rfl, kup⟩, bb3⟩
  have B3 : Below w.heap.size w v3 := B2.trans (bb3.mono B2.size)
  have kq := kq.below bb3
  have kpa := kpa.below bb3
  have kst := kst.below bb3
  clear bb3 hup B2
  go_wp2_with fail
  refine (clone_any aex nex cex fex _ (by omega) (hex.below B3)).mono ?_
  rintro e v4 ⟨⟨dex, rfl, kex⟩, bb4⟩
  have B4 : Below w.heap.size w v4 := B3.trans (bb4.mono B3.size)
  have kq := kq.below bb4
  have kpa := kpa.below bb4
  have kst := kst.below bb4
  have kup := kup.below bb4
  clear bb4 hex B3
  have BV := B4
  clear B4
  have Mq : nq ≤ 65536 := by omega
  have Mpa : npa ≤ 65536 := by omega
  have Mst : nst ≤ 65536 := by omega
  have Mup : nup ≤ 65536 := by omega
  have Mex : nex ≤ 65536 := by omega
  go_wp2_with fail
  refine (buildForeach_bare dq nq nq fq pn dpa npa npa fpa dst nst nst fst dup nup nup fup _ _ _ _ Mq uq.out (kq) Mpa upa.out (kpa) Mst ust.out (kst) Mup uup.out (kup)).mono ?_
  rintro e x1 ⟨q1, rfl, PR, y1⟩
  have B1 := BV.trans (y1.mono BV.size)
  have LN := (redT_len nq npa nst nup fq fpa fst fup pn spn Mq uq.out Mpa upa.out Mst ust.out Mup uup.out).2
  have PR0 := PR
  go_wp2_with fail
  refine (join_pipe dq nq nq fq _ Mq uq.out (kq.below y1)).mono ?_
  rintro e z0 ⟨Jq, rfl, jq, sq, w0⟩
  have D0 := w0
  have HJq := Lib.hid jq
  clear jq
  go_wp2_with fail
  refine (pat_text pn dpa npa npa fpa _ spn Mpa upa.out ((kpa.below y1).below D0)).mono ?_
  rintro e z1 ⟨Jpa, rfl, jpa, spa, w1⟩
  have D1 := D0.trans (w1.mono D0.size)
  have HJpa := Lib.hid jpa
  clear jpa
  go_wp2_with fail
  refine (join_pipe dst nst nst fst _ Mst ust.out ((kst.below y1).below D1)).mono ?_
  rintro e z2 ⟨Jst, rfl, jst, sst, w2⟩
  have D2 := D1.trans (w2.mono D1.size)
  have HJst := Lib.hid jst
  clear jst
  go_wp2_with fail
  refine (join_pipe dup nup nup fup _ Mup uup.out ((kup.below y1).below D2)).mono ?_
  rintro e z3 ⟨Jup, rfl, jup, sup, w3⟩
  have D3 := D2.trans (w3.mono D2.size)
  have HJup := Lib.hid jup
  clear jup
  have HT := Lib.hid LN
  go_wp2_with fail
  refine (foreach_String _ _ _ PR (forT nq npa nst nup fq fpa fst fup pn) rfl _ D3 (by omega)).mono ?_
  rintro e x9 ⟨rfl, y9⟩
  go_wp2_with fail
  go_ret
  refine ⟨ret_bool ?_, B1.trans ((D3.trans (y9.mono D3.size)).mono B1.size)⟩
  simp only [toList_app, ByteArray.toList_mk, HJq.out, HJpa.out, HJst.out, HJup.out, forT, beq_iff_eq, List.append_assoc]
  rfl

set_option maxRecDepth 100000 in
set_option maxHeartbeats 2000000 in
theorem rlaw8_c (aq : Option Addr) (nq cq : Nat) (fq : Nat → ByteArray) (pn : ByteArray) (apa : Option Addr) (npa cpa : Nat) (fpa : Nat → ByteArray) (ast : Option Addr) (nst cst : Nat) (fst : Nat → ByteArray) (aup : Option Addr) (nup cup : Nat) (fup : Nat → ByteArray) (aex : Option Addr) (nex cex : Nat) (fex : Nat → ByteArray)  (w : World) (mq : nq ≤ 9223372036854775807) (zq : SzOk fq nq) (hq : StrIn w aq nq cq fq) (mpn : pn.size ≤ 9223372036854775807) (mpa : npa ≤ 9223372036854775807) (zpa : SzOk fpa npa) (hpa : StrIn w apa npa cpa fpa) (mst : nst ≤ 9223372036854775807) (zst : SzOk fst nst) (hst : StrIn w ast nst cst fst) (mup : nup ≤ 9223372036854775807) (zup : SzOk fup nup) (hup : StrIn w aup nup cup fup) (mex : nex ≤ 9223372036854775807) (zex : SzOk fex nex) (hex : StrIn w aex nex cex fex) :
    Calls Tryd.prog 8 #[.slice aq nq cq, .string pn, .slice apa npa cpa, .slice ast nst cst, .slice aup nup cup, .slice aex nex cex, .bool true] w fun e w' => e = .returned (.bool true) ∧ Below w.heap.size w w' := by
  have ZB := Lib.hid (zzb_FnForeachStringMatchesModel aq nq cq fq pn apa npa cpa fpa ast nst cst fst aup nup cup fup aex nex cex fex true w mq zq hq mpn mpa zpa hpa mst zst hst mup zup hup mex zex hex)
  clear zq zpa zst zup zex
  go_enter Tryd.func8, Tryd.ntmps8
  go_wp2_with fail
  refine ZB.out.mono ?_
  rintro e w1 ⟨⟨r, rfl, hr⟩, rfl⟩
  clear ZB
  cases r
  · go_wp2_with fail
    go_ret
    exact ⟨rfl, Below.refl _ _⟩
  have HR := Lib.hid (hr rfl)
  clear hr
  go_wp2_with fail
  refine (bad_any aq nq cq apa npa cpa ast nst cst aup nup cup aex nex cex  _ (by have := HR.out; omega) (by have := HR.out; omega) (by have := HR.out; omega) (by have := HR.out; omega) (by have := HR.out; omega)).mono ?_
  rintro e w1 ⟨⟨r, rfl, hr⟩, rfl⟩
  cases r
  rotate_left
  · go_wp2_with fail
    go_ret
    exact ⟨rfl, Below.refl _ _⟩
  obtain ⟨lq, lpa, lst, lup, lex⟩ := hr rfl
  go_wp2_with fail
  refine (totalBytes_any aq nq cq fq apa npa cpa fpa ast nst cst fst aup nup cup fup aex nex cex fex  _ (by have := HR.out; omega) hq (by have := HR.out; omega) hpa (by have := HR.out; omega) hst (by have := HR.out; omega) hup (by have := HR.out; omega) hex ).mono ?_
  rintro e w1 ⟨rfl, rfl⟩
  have TB : totB nq npa nst nup nex fq fpa fst fup fex ≤ 1099511627776 := by have := HR.out; unfold totB; omega
  have spn : pn.size ≤ 1048576 := by have := HR.out; omega
  have uq := Lib.hid (show tot fq nq ≤ 1048576 by have := HR.out; omega)
  have upa := Lib.hid (show tot fpa npa ≤ 1048576 by have := HR.out; omega)
  have ust := Lib.hid (show tot fst nst ≤ 1048576 by have := HR.out; omega)
  have uup := Lib.hid (show tot fup nup ≤ 1048576 by have := HR.out; omega)
  have uex := Lib.hid (show tot fex nex ≤ 1048576 by have := HR.out; omega)
  clear HR
  generalize totB nq npa nst nup nex fq fpa fst fup fex = TT at *
  by_cases ht : TT + pn.size ≤ 1048576
  rotate_left
  · go_wp2_with fail
    go_ret
    exact ⟨rfl, Below.refl _ _⟩
  go_wp2_with fail
  refine (clone_any aq nq cq fq _ (by omega) hq).mono ?_
  rintro e v0 ⟨⟨dq, rfl, kq⟩, bb0⟩
  have B0 : Below w.heap.size w v0 := bb0
  clear bb0 hq
  go_wp2_with fail
  refine (clone_any apa npa cpa fpa _ (by omega) (hpa.below B0)).mono ?_
  rintro e v1 ⟨⟨dpa, rfl, kpa⟩, bb1⟩
  have B1 : Below w.heap.size w v1 := B0.trans (bb1.mono B0.size)
  have kq := kq.below bb1
  clear bb1 hpa B0
  go_wp2_with fail
  refine (clone_any ast nst cst fst _ (by omega) (hst.below B1)).mono ?_
  rintro e v2 ⟨⟨dst, rfl, kst⟩, bb2⟩
  have B2 : Below w.heap.size w v2 := B1.trans (bb2.mono B1.size)
  have kq := kq.below bb2
  have kpa := kpa.below bb2
  clear bb2 hst B1
  go_wp2_with fail
  refine (clone_any aup nup cup fup _ (by omega) (hup.below B2)).mono ?_
  rintro e v3 ⟨⟨dup, rfl, kup⟩, bb3⟩
  have B3 : Below w.heap.size w v3 := B2.trans (bb3.mono B2.size)
  have kq := kq.below bb3
  have kpa := kpa.below bb3
  have kst := kst.below bb3
  clear bb3 hup B2
  go_wp2_with fail
  refine (clone_any aex nex cex fex _ (by omega) (hex.below B3)).mono ?_
  rintro e v4 ⟨⟨dex, rfl, kex⟩, bb4⟩
  have B4 : Below w.heap.size w v4 := B3.trans (bb4.mono B3.size)
  have kq := kq.below bb4
  have kpa := kpa.below bb4
  have kst := kst.below bb4
  have kup := kup.below bb4
  clear bb4 hex B3
  have BV := B4
  clear B4
  have Mq : nq ≤ 65536 := by omega
  have Mpa : npa ≤ 65536 := by omega
  have Mst : nst ≤ 65536 := by omega
  have Mup : nup ≤ 65536 := by omega
  have Mex : nex ≤ 65536 := by omega
  go_wp2_with fail
  refine (buildForeach_ext dq nq nq fq pn dpa npa npa fpa dst nst nst fst dup nup nup fup dex nex nex fex _ Mq uq.out (kq) Mpa upa.out (kpa) Mst ust.out (kst) Mup uup.out (kup) Mex uex.out kex).mono ?_
  rintro e x1 ⟨q1, rfl, PR, y1⟩
  have B1 := BV.trans (y1.mono BV.size)
  have LN := forX_len nq npa nst nup nex fq fpa fst fup fex pn spn Mq uq.out Mpa upa.out Mst ust.out Mup uup.out Mex uex.out
  have PR0 := PR
  go_wp2_with fail
  refine (join_pipe dq nq nq fq _ Mq uq.out (kq.below y1)).mono ?_
  rintro e z0 ⟨Jq, rfl, jq, sq, w0⟩
  have D0 := w0
  have HJq := Lib.hid jq
  clear jq
  go_wp2_with fail
  refine (pat_text pn dpa npa npa fpa _ spn Mpa upa.out ((kpa.below y1).below D0)).mono ?_
  rintro e z1 ⟨Jpa, rfl, jpa, spa, w1⟩
  have D1 := D0.trans (w1.mono D0.size)
  have HJpa := Lib.hid jpa
  clear jpa
  go_wp2_with fail
  refine (join_pipe dst nst nst fst _ Mst ust.out ((kst.below y1).below D1)).mono ?_
  rintro e z2 ⟨Jst, rfl, jst, sst, w2⟩
  have D2 := D1.trans (w2.mono D1.size)
  have HJst := Lib.hid jst
  clear jst
  go_wp2_with fail
  refine (join_pipe dup nup nup fup _ Mup uup.out ((kup.below y1).below D2)).mono ?_
  rintro e z3 ⟨Jup, rfl, jup, sup, w3⟩
  have D3 := D2.trans (w3.mono D2.size)
  have HJup := Lib.hid jup
  clear jup
  go_wp2_with fail
  refine (join_pipe dex nex nex fex _ Mex uex.out ((kex.below y1).below D3)).mono ?_
  rintro e z4 ⟨Jex, rfl, jex, sex, w4⟩
  have D4 := D3.trans (w4.mono D3.size)
  have HJex := Lib.hid jex
  clear jex
  have HT := Lib.hid LN
  go_wp2_with fail
  refine (foreach_String _ _ _ PR (forX nq npa nst nup nex fq fpa fst fup fex pn) rfl _ D4 (by omega)).mono ?_
  rintro e x9 ⟨rfl, y9⟩
  go_wp2_with fail
  go_ret
  refine ⟨ret_bool ?_, B1.trans ((D4.trans (y9.mono D4.size)).mono B1.size)⟩
  simp only [toList_app, ByteArray.toList_mk, HJq.out, HJpa.out, HJst.out, HJup.out, HJex.out, forX, beq_iff_eq, List.append_assoc]
  rfl

theorem rlaw8 (aq : Option Addr) (nq cq : Nat) (fq : Nat → ByteArray) (pn : ByteArray) (apa : Option Addr) (npa cpa : Nat) (fpa : Nat → ByteArray) (ast : Option Addr) (nst cst : Nat) (fst : Nat → ByteArray) (aup : Option Addr) (nup cup : Nat) (fup : Nat → ByteArray) (aex : Option Addr) (nex cex : Nat) (fex : Nat → ByteArray) (hx : Bool) (w : World) (mq : nq ≤ 9223372036854775807) (zq : SzOk fq nq) (hq : StrIn w aq nq cq fq) (mpn : pn.size ≤ 9223372036854775807) (mpa : npa ≤ 9223372036854775807) (zpa : SzOk fpa npa) (hpa : StrIn w apa npa cpa fpa) (mst : nst ≤ 9223372036854775807) (zst : SzOk fst nst) (hst : StrIn w ast nst cst fst) (mup : nup ≤ 9223372036854775807) (zup : SzOk fup nup) (hup : StrIn w aup nup cup fup) (mex : nex ≤ 9223372036854775807) (zex : SzOk fex nex) (hex : StrIn w aex nex cex fex) :
    Calls Tryd.prog 8 #[.slice aq nq cq, .string pn, .slice apa npa cpa, .slice ast nst cst, .slice aup nup cup, .slice aex nex cex, .bool hx] w fun e w' => e = .returned (.bool true) ∧ Below w.heap.size w w' := by
  cases hx
  · exact rlaw8_n aq nq cq fq pn apa npa cpa fpa ast nst cst fst aup nup cup fup aex nex cex fex w mq zq hq mpn mpa zpa hpa mst zst hst mup zup hup mex zex hex
  · exact rlaw8_c aq nq cq fq pn apa npa cpa fpa ast nst cst fst aup nup cup fup aex nex cex fex w mq zq hq mpn mpa zpa hpa mst zst hst mup zup hup mex zex hex
end Go.Proofs.YtboekgedfhdaaaaDoor
