/- The laws' guards (zzBytes): true tells that all is short. -/
import Derived.Test.YtboekgedfhdaaaaDoorRS
set_option linter.unusedVariables false
namespace Go.Proofs.YtboekgedfhdaaaaDoor
open Go.Shelf Go.RowKit


set_option maxRecDepth 100000 in
set_option maxHeartbeats 1000000 in
theorem zzb_FnReduceStringMatchesModel (aq : Option Addr) (nq cq : Nat) (fq : Nat → ByteArray) (pn : ByteArray) (apa : Option Addr) (npa cpa : Nat) (fpa : Nat → ByteArray) (ast : Option Addr) (nst cst : Nat) (fst : Nat → ByteArray) (aup : Option Addr) (nup cup : Nat) (fup : Nat → ByteArray) (w : World) (mq : nq ≤ 9223372036854775807) (zq : SzOk fq nq) (hq : StrIn w aq nq cq fq) (mpn : pn.size ≤ 9223372036854775807) (mpa : npa ≤ 9223372036854775807) (zpa : SzOk fpa npa) (hpa : StrIn w apa npa cpa fpa) (mst : nst ≤ 9223372036854775807) (zst : SzOk fst nst) (hst : StrIn w ast nst cst fst) (mup : nup ≤ 9223372036854775807) (zup : SzOk fup nup) (hup : StrIn w aup nup cup fup) :
    Calls Tryd.prog 21 #[.slice aq nq cq, .string pn, .slice apa npa cpa, .slice ast nst cst, .slice aup nup cup] w fun e w' => BoolIf (nq + tot fq nq + pn.size + npa + tot fpa npa + nst + tot fst nst + nup + tot fup nup ≤ 1048576) e ∧ w = w' := by
  have Zq := Lib.hid zq
  clear zq
  have Zpa := Lib.hid zpa
  clear zpa
  have Zst := Lib.hid zst
  clear zst
  have Zup := Lib.hid zup
  clear zup
  go_enter Tryd.func21, Tryd.ntmps21
  by_cases gq : nq ≤ 1048576
  rotate_left
  · go_wp2
    all_goals
      go_ret
      exact ⟨BoolIf.no rfl, rfl⟩
  go_wp2_with fail
  go_loop [11, 12] (fun z i => ∃ k : Nat, k ≤ nq ∧ i = .int .i64 k ∧ z = .int .i64 ((nq + tot fq k : Nat) : Int) ∧ nq + tot fq k ≤ 1048576) (fun _ i => nq - (intOf i).toNat)
  case atStart => exact ⟨0, Nat.zero_le _, rfl, rfl, gq⟩
  case round =>
    obtain ⟨k, hk, rfl, rfl, hbq⟩ := hrel
    by_cases hlt : k < nq
    · rcases hq with ⟨_, h0, _⟩ | ⟨x, rfl, hx⟩
      · omega
      have hc := hx k hlt
      have hs := Zq.out k hlt
      have HX := Lib.hid hx
      clear hx
      have et : tot fq (k + 1) = tot fq k + (fq k).size := rfl
      have ET := Lib.hid et
      clear et
      generalize fq k = s at hc hs ET
      by_cases gs : nq + tot fq k + s.size ≤ 1048576
      · go_wp2
        go_round
        case rel => exact ⟨k + 1, by omega, by go_num, by rw [ET.out]; go_num, by rw [ET.out]; omega⟩
        case measure => simp [intOf]; omega
      · go_wp2
        all_goals
          go_ret
          exact ⟨BoolIf.no rfl, rfl⟩
    obtain rfl : nq = k := by omega
    by_cases gpn : nq + tot fq nq + pn.size ≤ 1048576
    rotate_left
    · go_wp2
      all_goals
        go_ret
        exact ⟨BoolIf.no rfl, rfl⟩
    by_cases gpa : nq + tot fq nq + pn.size + npa ≤ 1048576
    rotate_left
    · go_wp2
      all_goals
        go_ret
        exact ⟨BoolIf.no rfl, rfl⟩
    go_wp2_with fail
    go_loop [11, 13] (fun z i => ∃ k : Nat, k ≤ npa ∧ i = .int .i64 k ∧ z = .int .i64 ((nq + tot fq nq + pn.size + npa + tot fpa k : Nat) : Int) ∧ nq + tot fq nq + pn.size + npa + tot fpa k ≤ 1048576) (fun _ i => npa - (intOf i).toNat)
    case atStart => exact ⟨0, Nat.zero_le _, rfl, rfl, gpa⟩
    case round =>
      obtain ⟨k, hk, rfl, rfl, hbpa⟩ := hrel
      by_cases hlt : k < npa
      · rcases hpa with ⟨_, h0, _⟩ | ⟨x, rfl, hx⟩
        · omega
        have hc := hx k hlt
        have hs := Zpa.out k hlt
        have HX := Lib.hid hx
        clear hx
        have et : tot fpa (k + 1) = tot fpa k + (fpa k).size := rfl
        have ET := Lib.hid et
        clear et
        generalize fpa k = s at hc hs ET
        by_cases gs : nq + tot fq nq + pn.size + npa + tot fpa k + s.size ≤ 1048576
        · go_wp2
          go_round
          case rel => exact ⟨k + 1, by omega, by go_num, by rw [ET.out]; go_num, by rw [ET.out]; omega⟩
          case measure => simp [intOf]; omega
        · go_wp2
          all_goals
            go_ret
            exact ⟨BoolIf.no rfl, rfl⟩
      obtain rfl : npa = k := by omega
      by_cases gst : nq + tot fq nq + pn.size + npa + tot fpa npa + nst ≤ 1048576
      rotate_left
      · go_wp2
        all_goals
          go_ret
          exact ⟨BoolIf.no rfl, rfl⟩
      go_wp2_with fail
      go_loop [11, 14] (fun z i => ∃ k : Nat, k ≤ nst ∧ i = .int .i64 k ∧ z = .int .i64 ((nq + tot fq nq + pn.size + npa + tot fpa npa + nst + tot fst k : Nat) : Int) ∧ nq + tot fq nq + pn.size + npa + tot fpa npa + nst + tot fst k ≤ 1048576) (fun _ i => nst - (intOf i).toNat)
      case atStart => exact ⟨0, Nat.zero_le _, rfl, rfl, gst⟩
      case round =>
        obtain ⟨k, hk, rfl, rfl, hbst⟩ := hrel
        by_cases hlt : k < nst
        · rcases hst with ⟨_, h0, _⟩ | ⟨x, rfl, hx⟩
          · omega
          have hc := hx k hlt
          have hs := Zst.out k hlt
          have HX := Lib.hid hx
          clear hx
          have et : tot fst (k + 1) = tot fst k + (fst k).size := rfl
          have ET := Lib.hid et
          clear et
          generalize fst k = s at hc hs ET
          by_cases gs : nq + tot fq nq + pn.size + npa + tot fpa npa + nst + tot fst k + s.size ≤ 1048576
          · go_wp2
            go_round
            case rel => exact ⟨k + 1, by omega, by go_num, by rw [ET.out]; go_num, by rw [ET.out]; omega⟩
            case measure => simp [intOf]; omega
          · go_wp2
            all_goals
              go_ret
              exact ⟨BoolIf.no rfl, rfl⟩
        obtain rfl : nst = k := by omega
        by_cases gup : nq + tot fq nq + pn.size + npa + tot fpa npa + nst + tot fst nst + nup ≤ 1048576
        rotate_left
        · go_wp2
          all_goals
            go_ret
            exact ⟨BoolIf.no rfl, rfl⟩
        go_wp2_with fail
        go_loop [11, 15] (fun z i => ∃ k : Nat, k ≤ nup ∧ i = .int .i64 k ∧ z = .int .i64 ((nq + tot fq nq + pn.size + npa + tot fpa npa + nst + tot fst nst + nup + tot fup k : Nat) : Int) ∧ nq + tot fq nq + pn.size + npa + tot fpa npa + nst + tot fst nst + nup + tot fup k ≤ 1048576) (fun _ i => nup - (intOf i).toNat)
        case atStart => exact ⟨0, Nat.zero_le _, rfl, rfl, gup⟩
        case round =>
          obtain ⟨k, hk, rfl, rfl, hbup⟩ := hrel
          by_cases hlt : k < nup
          · rcases hup with ⟨_, h0, _⟩ | ⟨x, rfl, hx⟩
            · omega
            have hc := hx k hlt
            have hs := Zup.out k hlt
            have HX := Lib.hid hx
            clear hx
            have et : tot fup (k + 1) = tot fup k + (fup k).size := rfl
            have ET := Lib.hid et
            clear et
            generalize fup k = s at hc hs ET
            by_cases gs : nq + tot fq nq + pn.size + npa + tot fpa npa + nst + tot fst nst + nup + tot fup k + s.size ≤ 1048576
            · go_wp2
              go_round
              case rel => exact ⟨k + 1, by omega, by go_num, by rw [ET.out]; go_num, by rw [ET.out]; omega⟩
              case measure => simp [intOf]; omega
            · go_wp2
              all_goals
                go_ret
                exact ⟨BoolIf.no rfl, rfl⟩
          obtain rfl : nup = k := by omega
          go_wp2
          go_ret
          exact ⟨BoolIf.yes rfl (by omega), rfl⟩

set_option maxRecDepth 100000 in
set_option maxHeartbeats 1000000 in
theorem zzb_FnForeachStringMatchesModel (aq : Option Addr) (nq cq : Nat) (fq : Nat → ByteArray) (pn : ByteArray) (apa : Option Addr) (npa cpa : Nat) (fpa : Nat → ByteArray) (ast : Option Addr) (nst cst : Nat) (fst : Nat → ByteArray) (aup : Option Addr) (nup cup : Nat) (fup : Nat → ByteArray) (aex : Option Addr) (nex cex : Nat) (fex : Nat → ByteArray) (hx : Bool) (w : World) (mq : nq ≤ 9223372036854775807) (zq : SzOk fq nq) (hq : StrIn w aq nq cq fq) (mpn : pn.size ≤ 9223372036854775807) (mpa : npa ≤ 9223372036854775807) (zpa : SzOk fpa npa) (hpa : StrIn w apa npa cpa fpa) (mst : nst ≤ 9223372036854775807) (zst : SzOk fst nst) (hst : StrIn w ast nst cst fst) (mup : nup ≤ 9223372036854775807) (zup : SzOk fup nup) (hup : StrIn w aup nup cup fup) (mex : nex ≤ 9223372036854775807) (zex : SzOk fex nex) (hex : StrIn w aex nex cex fex) :
    Calls Tryd.prog 28 #[.slice aq nq cq, .string pn, .slice apa npa cpa, .slice ast nst cst, .slice aup nup cup, .slice aex nex cex, .bool hx] w fun e w' => BoolIf (nq + tot fq nq + pn.size + npa + tot fpa npa + nst + tot fst nst + nup + tot fup nup + nex + tot fex nex ≤ 1048576) e ∧ w = w' := by
  have Zq := Lib.hid zq
  clear zq
  have Zpa := Lib.hid zpa
  clear zpa
  have Zst := Lib.hid zst
  clear zst
  have Zup := Lib.hid zup
  clear zup
  have Zex := Lib.hid zex
  clear zex
  go_enter Tryd.func28, Tryd.ntmps28
  by_cases gq : nq ≤ 1048576
  rotate_left
  · go_wp2
    all_goals
      go_ret
      exact ⟨BoolIf.no rfl, rfl⟩
  go_wp2_with fail
  go_loop [15, 16] (fun z i => ∃ k : Nat, k ≤ nq ∧ i = .int .i64 k ∧ z = .int .i64 ((nq + tot fq k : Nat) : Int) ∧ nq + tot fq k ≤ 1048576) (fun _ i => nq - (intOf i).toNat)
  case atStart => exact ⟨0, Nat.zero_le _, rfl, rfl, gq⟩
  case round =>
    obtain ⟨k, hk, rfl, rfl, hbq⟩ := hrel
    by_cases hlt : k < nq
    · rcases hq with ⟨_, h0, _⟩ | ⟨x, rfl, hx⟩
      · omega
      have hc := hx k hlt
      have hs := Zq.out k hlt
      have HX := Lib.hid hx
      clear hx
      have et : tot fq (k + 1) = tot fq k + (fq k).size := rfl
      have ET := Lib.hid et
      clear et
      generalize fq k = s at hc hs ET
      by_cases gs : nq + tot fq k + s.size ≤ 1048576
      · go_wp2
        go_round
        case rel => exact ⟨k + 1, by omega, by go_num, by rw [ET.out]; go_num, by rw [ET.out]; omega⟩
        case measure => simp [intOf]; omega
      · go_wp2
        all_goals
          go_ret
          exact ⟨BoolIf.no rfl, rfl⟩
    obtain rfl : nq = k := by omega
    by_cases gpn : nq + tot fq nq + pn.size ≤ 1048576
    rotate_left
    · go_wp2
      all_goals
        go_ret
        exact ⟨BoolIf.no rfl, rfl⟩
    by_cases gpa : nq + tot fq nq + pn.size + npa ≤ 1048576
    rotate_left
    · go_wp2
      all_goals
        go_ret
        exact ⟨BoolIf.no rfl, rfl⟩
    go_wp2_with fail
    go_loop [15, 17] (fun z i => ∃ k : Nat, k ≤ npa ∧ i = .int .i64 k ∧ z = .int .i64 ((nq + tot fq nq + pn.size + npa + tot fpa k : Nat) : Int) ∧ nq + tot fq nq + pn.size + npa + tot fpa k ≤ 1048576) (fun _ i => npa - (intOf i).toNat)
    case atStart => exact ⟨0, Nat.zero_le _, rfl, rfl, gpa⟩
    case round =>
      obtain ⟨k, hk, rfl, rfl, hbpa⟩ := hrel
      by_cases hlt : k < npa
      · rcases hpa with ⟨_, h0, _⟩ | ⟨x, rfl, hx⟩
        · omega
        have hc := hx k hlt
        have hs := Zpa.out k hlt
        have HX := Lib.hid hx
        clear hx
        have et : tot fpa (k + 1) = tot fpa k + (fpa k).size := rfl
        have ET := Lib.hid et
        clear et
        generalize fpa k = s at hc hs ET
        by_cases gs : nq + tot fq nq + pn.size + npa + tot fpa k + s.size ≤ 1048576
        · go_wp2
          go_round
          case rel => exact ⟨k + 1, by omega, by go_num, by rw [ET.out]; go_num, by rw [ET.out]; omega⟩
          case measure => simp [intOf]; omega
        · go_wp2
          all_goals
            go_ret
            exact ⟨BoolIf.no rfl, rfl⟩
      obtain rfl : npa = k := by omega
      by_cases gst : nq + tot fq nq + pn.size + npa + tot fpa npa + nst ≤ 1048576
      rotate_left
      · go_wp2
        all_goals
          go_ret
          exact ⟨BoolIf.no rfl, rfl⟩
      go_wp2_with fail
      go_loop [15, 18] (fun z i => ∃ k : Nat, k ≤ nst ∧ i = .int .i64 k ∧ z = .int .i64 ((nq + tot fq nq + pn.size + npa + tot fpa npa + nst + tot fst k : Nat) : Int) ∧ nq + tot fq nq + pn.size + npa + tot fpa npa + nst + tot fst k ≤ 1048576) (fun _ i => nst - (intOf i).toNat)
      case atStart => exact ⟨0, Nat.zero_le _, rfl, rfl, gst⟩
      case round =>
        obtain ⟨k, hk, rfl, rfl, hbst⟩ := hrel
        by_cases hlt : k < nst
        · rcases hst with ⟨_, h0, _⟩ | ⟨x, rfl, hx⟩
          · omega
          have hc := hx k hlt
          have hs := Zst.out k hlt
          have HX := Lib.hid hx
          clear hx
          have et : tot fst (k + 1) = tot fst k + (fst k).size := rfl
          have ET := Lib.hid et
          clear et
          generalize fst k = s at hc hs ET
          by_cases gs : nq + tot fq nq + pn.size + npa + tot fpa npa + nst + tot fst k + s.size ≤ 1048576
          · go_wp2
            go_round
            case rel => exact ⟨k + 1, by omega, by go_num, by rw [ET.out]; go_num, by rw [ET.out]; omega⟩
            case measure => simp [intOf]; omega
          · go_wp2
            all_goals
              go_ret
              exact ⟨BoolIf.no rfl, rfl⟩
        obtain rfl : nst = k := by omega
        by_cases gup : nq + tot fq nq + pn.size + npa + tot fpa npa + nst + tot fst nst + nup ≤ 1048576
        rotate_left
        · go_wp2
          all_goals
            go_ret
            exact ⟨BoolIf.no rfl, rfl⟩
        go_wp2_with fail
        go_loop [15, 19] (fun z i => ∃ k : Nat, k ≤ nup ∧ i = .int .i64 k ∧ z = .int .i64 ((nq + tot fq nq + pn.size + npa + tot fpa npa + nst + tot fst nst + nup + tot fup k : Nat) : Int) ∧ nq + tot fq nq + pn.size + npa + tot fpa npa + nst + tot fst nst + nup + tot fup k ≤ 1048576) (fun _ i => nup - (intOf i).toNat)
        case atStart => exact ⟨0, Nat.zero_le _, rfl, rfl, gup⟩
        case round =>
          obtain ⟨k, hk, rfl, rfl, hbup⟩ := hrel
          by_cases hlt : k < nup
          · rcases hup with ⟨_, h0, _⟩ | ⟨x, rfl, hx⟩
            · omega
            have hc := hx k hlt
            have hs := Zup.out k hlt
            have HX := Lib.hid hx
            clear hx
            have et : tot fup (k + 1) = tot fup k + (fup k).size := rfl
            have ET := Lib.hid et
            clear et
            generalize fup k = s at hc hs ET
            by_cases gs : nq + tot fq nq + pn.size + npa + tot fpa npa + nst + tot fst nst + nup + tot fup k + s.size ≤ 1048576
            · go_wp2
              go_round
              case rel => exact ⟨k + 1, by omega, by go_num, by rw [ET.out]; go_num, by rw [ET.out]; omega⟩
              case measure => simp [intOf]; omega
            · go_wp2
              all_goals
                go_ret
                exact ⟨BoolIf.no rfl, rfl⟩
          obtain rfl : nup = k := by omega
          by_cases gex : nq + tot fq nq + pn.size + npa + tot fpa npa + nst + tot fst nst + nup + tot fup nup + nex ≤ 1048576
          rotate_left
          · go_wp2
            all_goals
              go_ret
              exact ⟨BoolIf.no rfl, rfl⟩
          go_wp2_with fail
          go_loop [15, 20] (fun z i => ∃ k : Nat, k ≤ nex ∧ i = .int .i64 k ∧ z = .int .i64 ((nq + tot fq nq + pn.size + npa + tot fpa npa + nst + tot fst nst + nup + tot fup nup + nex + tot fex k : Nat) : Int) ∧ nq + tot fq nq + pn.size + npa + tot fpa npa + nst + tot fst nst + nup + tot fup nup + nex + tot fex k ≤ 1048576) (fun _ i => nex - (intOf i).toNat)
          case atStart => exact ⟨0, Nat.zero_le _, rfl, rfl, gex⟩
          case round =>
            obtain ⟨k, hk, rfl, rfl, hbex⟩ := hrel
            by_cases hlt : k < nex
            · rcases hex with ⟨_, h0, _⟩ | ⟨x, rfl, hx⟩
              · omega
              have hc := hx k hlt
              have hs := Zex.out k hlt
              have HX := Lib.hid hx
              clear hx
              have et : tot fex (k + 1) = tot fex k + (fex k).size := rfl
              have ET := Lib.hid et
              clear et
              generalize fex k = s at hc hs ET
              by_cases gs : nq + tot fq nq + pn.size + npa + tot fpa npa + nst + tot fst nst + nup + tot fup nup + nex + tot fex k + s.size ≤ 1048576
              · go_wp2
                go_round
                case rel => exact ⟨k + 1, by omega, by go_num, by rw [ET.out]; go_num, by rw [ET.out]; omega⟩
                case measure => simp [intOf]; omega
              · go_wp2
                all_goals
                  go_ret
                  exact ⟨BoolIf.no rfl, rfl⟩
            obtain rfl : nex = k := by omega
            go_wp2
            go_ret
            exact ⟨BoolIf.yes rfl (by omega), rfl⟩

set_option maxRecDepth 100000 in
set_option maxHeartbeats 1000000 in
theorem zzb_FnForeachWithoutExtractIsReduceRetitled (aq : Option Addr) (nq cq : Nat) (fq : Nat → ByteArray) (pn : ByteArray) (apa : Option Addr) (npa cpa : Nat) (fpa : Nat → ByteArray) (ast : Option Addr) (nst cst : Nat) (fst : Nat → ByteArray) (aup : Option Addr) (nup cup : Nat) (fup : Nat → ByteArray) (w : World) (mq : nq ≤ 9223372036854775807) (zq : SzOk fq nq) (hq : StrIn w aq nq cq fq) (mpn : pn.size ≤ 9223372036854775807) (mpa : npa ≤ 9223372036854775807) (zpa : SzOk fpa npa) (hpa : StrIn w apa npa cpa fpa) (mst : nst ≤ 9223372036854775807) (zst : SzOk fst nst) (hst : StrIn w ast nst cst fst) (mup : nup ≤ 9223372036854775807) (zup : SzOk fup nup) (hup : StrIn w aup nup cup fup) :
    Calls Tryd.prog 27 #[.slice aq nq cq, .string pn, .slice apa npa cpa, .slice ast nst cst, .slice aup nup cup] w fun e w' => BoolIf (nq + tot fq nq + pn.size + npa + tot fpa npa + nst + tot fst nst + nup + tot fup nup ≤ 1048576) e ∧ w = w' := by
  have Zq := Lib.hid zq
  clear zq
  have Zpa := Lib.hid zpa
  clear zpa
  have Zst := Lib.hid zst
  clear zst
  have Zup := Lib.hid zup
  clear zup
  go_enter Tryd.func27, Tryd.ntmps27
  by_cases gq : nq ≤ 1048576
  rotate_left
  · go_wp2
    all_goals
      go_ret
      exact ⟨BoolIf.no rfl, rfl⟩
  go_wp2_with fail
  go_loop [11, 12] (fun z i => ∃ k : Nat, k ≤ nq ∧ i = .int .i64 k ∧ z = .int .i64 ((nq + tot fq k : Nat) : Int) ∧ nq + tot fq k ≤ 1048576) (fun _ i => nq - (intOf i).toNat)
  case atStart => exact ⟨0, Nat.zero_le _, rfl, rfl, gq⟩
  case round =>
    obtain ⟨k, hk, rfl, rfl, hbq⟩ := hrel
    by_cases hlt : k < nq
    · rcases hq with ⟨_, h0, _⟩ | ⟨x, rfl, hx⟩
      · omega
      have hc := hx k hlt
      have hs := Zq.out k hlt
      have HX := Lib.hid hx
      clear hx
      have et : tot fq (k + 1) = tot fq k + (fq k).size := rfl
      have ET := Lib.hid et
      clear et
      generalize fq k = s at hc hs ET
      by_cases gs : nq + tot fq k + s.size ≤ 1048576
      · go_wp2
        go_round
        case rel => exact ⟨k + 1, by omega, by go_num, by rw [ET.out]; go_num, by rw [ET.out]; omega⟩
        case measure => simp [intOf]; omega
      · go_wp2
        all_goals
          go_ret
          exact ⟨BoolIf.no rfl, rfl⟩
    obtain rfl : nq = k := by omega
    by_cases gpn : nq + tot fq nq + pn.size ≤ 1048576
    rotate_left
    · go_wp2
      all_goals
        go_ret
        exact ⟨BoolIf.no rfl, rfl⟩
    by_cases gpa : nq + tot fq nq + pn.size + npa ≤ 1048576
    rotate_left
    · go_wp2
      all_goals
        go_ret
        exact ⟨BoolIf.no rfl, rfl⟩
    go_wp2_with fail
    go_loop [11, 13] (fun z i => ∃ k : Nat, k ≤ npa ∧ i = .int .i64 k ∧ z = .int .i64 ((nq + tot fq nq + pn.size + npa + tot fpa k : Nat) : Int) ∧ nq + tot fq nq + pn.size + npa + tot fpa k ≤ 1048576) (fun _ i => npa - (intOf i).toNat)
    case atStart => exact ⟨0, Nat.zero_le _, rfl, rfl, gpa⟩
    case round =>
      obtain ⟨k, hk, rfl, rfl, hbpa⟩ := hrel
      by_cases hlt : k < npa
      · rcases hpa with ⟨_, h0, _⟩ | ⟨x, rfl, hx⟩
        · omega
        have hc := hx k hlt
        have hs := Zpa.out k hlt
        have HX := Lib.hid hx
        clear hx
        have et : tot fpa (k + 1) = tot fpa k + (fpa k).size := rfl
        have ET := Lib.hid et
        clear et
        generalize fpa k = s at hc hs ET
        by_cases gs : nq + tot fq nq + pn.size + npa + tot fpa k + s.size ≤ 1048576
        · go_wp2
          go_round
          case rel => exact ⟨k + 1, by omega, by go_num, by rw [ET.out]; go_num, by rw [ET.out]; omega⟩
          case measure => simp [intOf]; omega
        · go_wp2
          all_goals
            go_ret
            exact ⟨BoolIf.no rfl, rfl⟩
      obtain rfl : npa = k := by omega
      by_cases gst : nq + tot fq nq + pn.size + npa + tot fpa npa + nst ≤ 1048576
      rotate_left
      · go_wp2
        all_goals
          go_ret
          exact ⟨BoolIf.no rfl, rfl⟩
      go_wp2_with fail
      go_loop [11, 14] (fun z i => ∃ k : Nat, k ≤ nst ∧ i = .int .i64 k ∧ z = .int .i64 ((nq + tot fq nq + pn.size + npa + tot fpa npa + nst + tot fst k : Nat) : Int) ∧ nq + tot fq nq + pn.size + npa + tot fpa npa + nst + tot fst k ≤ 1048576) (fun _ i => nst - (intOf i).toNat)
      case atStart => exact ⟨0, Nat.zero_le _, rfl, rfl, gst⟩
      case round =>
        obtain ⟨k, hk, rfl, rfl, hbst⟩ := hrel
        by_cases hlt : k < nst
        · rcases hst with ⟨_, h0, _⟩ | ⟨x, rfl, hx⟩
          · omega
          have hc := hx k hlt
          have hs := Zst.out k hlt
          have HX := Lib.hid hx
          clear hx
          have et : tot fst (k + 1) = tot fst k + (fst k).size := rfl
          have ET := Lib.hid et
          clear et
          generalize fst k = s at hc hs ET
          by_cases gs : nq + tot fq nq + pn.size + npa + tot fpa npa + nst + tot fst k + s.size ≤ 1048576
          · go_wp2
            go_round
            case rel => exact ⟨k + 1, by omega, by go_num, by rw [ET.out]; go_num, by rw [ET.out]; omega⟩
            case measure => simp [intOf]; omega
          · go_wp2
            all_goals
              go_ret
              exact ⟨BoolIf.no rfl, rfl⟩
        obtain rfl : nst = k := by omega
        by_cases gup : nq + tot fq nq + pn.size + npa + tot fpa npa + nst + tot fst nst + nup ≤ 1048576
        rotate_left
        · go_wp2
          all_goals
            go_ret
            exact ⟨BoolIf.no rfl, rfl⟩
        go_wp2_with fail
        go_loop [11, 15] (fun z i => ∃ k : Nat, k ≤ nup ∧ i = .int .i64 k ∧ z = .int .i64 ((nq + tot fq nq + pn.size + npa + tot fpa npa + nst + tot fst nst + nup + tot fup k : Nat) : Int) ∧ nq + tot fq nq + pn.size + npa + tot fpa npa + nst + tot fst nst + nup + tot fup k ≤ 1048576) (fun _ i => nup - (intOf i).toNat)
        case atStart => exact ⟨0, Nat.zero_le _, rfl, rfl, gup⟩
        case round =>
          obtain ⟨k, hk, rfl, rfl, hbup⟩ := hrel
          by_cases hlt : k < nup
          · rcases hup with ⟨_, h0, _⟩ | ⟨x, rfl, hx⟩
            · omega
            have hc := hx k hlt
            have hs := Zup.out k hlt
            have HX := Lib.hid hx
            clear hx
            have et : tot fup (k + 1) = tot fup k + (fup k).size := rfl
            have ET := Lib.hid et
            clear et
            generalize fup k = s at hc hs ET
            by_cases gs : nq + tot fq nq + pn.size + npa + tot fpa npa + nst + tot fst nst + nup + tot fup k + s.size ≤ 1048576
            · go_wp2
              go_round
              case rel => exact ⟨k + 1, by omega, by go_num, by rw [ET.out]; go_num, by rw [ET.out]; omega⟩
              case measure => simp [intOf]; omega
            · go_wp2
              all_goals
                go_ret
                exact ⟨BoolIf.no rfl, rfl⟩
          obtain rfl : nup = k := by omega
          go_wp2
          go_ret
          exact ⟨BoolIf.yes rfl (by omega), rfl⟩

set_option maxRecDepth 100000 in
set_option maxHeartbeats 1000000 in
theorem zzb_FnReduceWriteToAppendsToAnyPrefix (px : ByteArray) (aq : Option Addr) (nq cq : Nat) (fq : Nat → ByteArray) (pn : ByteArray) (apa : Option Addr) (npa cpa : Nat) (fpa : Nat → ByteArray) (ast : Option Addr) (nst cst : Nat) (fst : Nat → ByteArray) (aup : Option Addr) (nup cup : Nat) (fup : Nat → ByteArray) (w : World) (mpx : px.size ≤ 9223372036854775807) (mq : nq ≤ 9223372036854775807) (zq : SzOk fq nq) (hq : StrIn w aq nq cq fq) (mpn : pn.size ≤ 9223372036854775807) (mpa : npa ≤ 9223372036854775807) (zpa : SzOk fpa npa) (hpa : StrIn w apa npa cpa fpa) (mst : nst ≤ 9223372036854775807) (zst : SzOk fst nst) (hst : StrIn w ast nst cst fst) (mup : nup ≤ 9223372036854775807) (zup : SzOk fup nup) (hup : StrIn w aup nup cup fup) :
    Calls Tryd.prog 10 #[.string px, .slice aq nq cq, .string pn, .slice apa npa cpa, .slice ast nst cst, .slice aup nup cup] w fun e w' => BoolIf (px.size + nq + tot fq nq + pn.size + npa + tot fpa npa + nst + tot fst nst + nup + tot fup nup ≤ 1048576) e ∧ w = w' := by
  have Zq := Lib.hid zq
  clear zq
  have Zpa := Lib.hid zpa
  clear zpa
  have Zst := Lib.hid zst
  clear zst
  have Zup := Lib.hid zup
  clear zup
  go_enter Tryd.func10, Tryd.ntmps10
  by_cases gpx : px.size ≤ 1048576
  rotate_left
  · go_wp2
    all_goals
      go_ret
      exact ⟨BoolIf.no rfl, rfl⟩
  by_cases gq : px.size + nq ≤ 1048576
  rotate_left
  · go_wp2
    all_goals
      go_ret
      exact ⟨BoolIf.no rfl, rfl⟩
  go_wp2_with fail
  go_loop [13, 14] (fun z i => ∃ k : Nat, k ≤ nq ∧ i = .int .i64 k ∧ z = .int .i64 ((px.size + nq + tot fq k : Nat) : Int) ∧ px.size + nq + tot fq k ≤ 1048576) (fun _ i => nq - (intOf i).toNat)
  case atStart => exact ⟨0, Nat.zero_le _, rfl, rfl, gq⟩
  case round =>
    obtain ⟨k, hk, rfl, rfl, hbq⟩ := hrel
    by_cases hlt : k < nq
    · rcases hq with ⟨_, h0, _⟩ | ⟨x, rfl, hx⟩
      · omega
      have hc := hx k hlt
      have hs := Zq.out k hlt
      have HX := Lib.hid hx
      clear hx
      have et : tot fq (k + 1) = tot fq k + (fq k).size := rfl
      have ET := Lib.hid et
      clear et
      generalize fq k = s at hc hs ET
      by_cases gs : px.size + nq + tot fq k + s.size ≤ 1048576
      · go_wp2
        go_round
        case rel => exact ⟨k + 1, by omega, by go_num, by rw [ET.out]; go_num, by rw [ET.out]; omega⟩
        case measure => simp [intOf]; omega
      · go_wp2
        all_goals
          go_ret
          exact ⟨BoolIf.no rfl, rfl⟩
    obtain rfl : nq = k := by omega
    by_cases gpn : px.size + nq + tot fq nq + pn.size ≤ 1048576
    rotate_left
    · go_wp2
      all_goals
        go_ret
        exact ⟨BoolIf.no rfl, rfl⟩
    by_cases gpa : px.size + nq + tot fq nq + pn.size + npa ≤ 1048576
    rotate_left
    · go_wp2
      all_goals
        go_ret
        exact ⟨BoolIf.no rfl, rfl⟩
    go_wp2_with fail
    go_loop [13, 15] (fun z i => ∃ k : Nat, k ≤ npa ∧ i = .int .i64 k ∧ z = .int .i64 ((px.size + nq + tot fq nq + pn.size + npa + tot fpa k : Nat) : Int) ∧ px.size + nq + tot fq nq + pn.size + npa + tot fpa k ≤ 1048576) (fun _ i => npa - (intOf i).toNat)
    case atStart => exact ⟨0, Nat.zero_le _, rfl, rfl, gpa⟩
    case round =>
      obtain ⟨k, hk, rfl, rfl, hbpa⟩ := hrel
      by_cases hlt : k < npa
      · rcases hpa with ⟨_, h0, _⟩ | ⟨x, rfl, hx⟩
        · omega
        have hc := hx k hlt
        have hs := Zpa.out k hlt
        have HX := Lib.hid hx
        clear hx
        have et : tot fpa (k + 1) = tot fpa k + (fpa k).size := rfl
        have ET := Lib.hid et
        clear et
        generalize fpa k = s at hc hs ET
        by_cases gs : px.size + nq + tot fq nq + pn.size + npa + tot fpa k + s.size ≤ 1048576
        · go_wp2
          go_round
          case rel => exact ⟨k + 1, by omega, by go_num, by rw [ET.out]; go_num, by rw [ET.out]; omega⟩
          case measure => simp [intOf]; omega
        · go_wp2
          all_goals
            go_ret
            exact ⟨BoolIf.no rfl, rfl⟩
      obtain rfl : npa = k := by omega
      by_cases gst : px.size + nq + tot fq nq + pn.size + npa + tot fpa npa + nst ≤ 1048576
      rotate_left
      · go_wp2
        all_goals
          go_ret
          exact ⟨BoolIf.no rfl, rfl⟩
      go_wp2_with fail
      go_loop [13, 16] (fun z i => ∃ k : Nat, k ≤ nst ∧ i = .int .i64 k ∧ z = .int .i64 ((px.size + nq + tot fq nq + pn.size + npa + tot fpa npa + nst + tot fst k : Nat) : Int) ∧ px.size + nq + tot fq nq + pn.size + npa + tot fpa npa + nst + tot fst k ≤ 1048576) (fun _ i => nst - (intOf i).toNat)
      case atStart => exact ⟨0, Nat.zero_le _, rfl, rfl, gst⟩
      case round =>
        obtain ⟨k, hk, rfl, rfl, hbst⟩ := hrel
        by_cases hlt : k < nst
        · rcases hst with ⟨_, h0, _⟩ | ⟨x, rfl, hx⟩
          · omega
          have hc := hx k hlt
          have hs := Zst.out k hlt
          have HX := Lib.hid hx
          clear hx
          have et : tot fst (k + 1) = tot fst k + (fst k).size := rfl
          have ET := Lib.hid et
          clear et
          generalize fst k = s at hc hs ET
          by_cases gs : px.size + nq + tot fq nq + pn.size + npa + tot fpa npa + nst + tot fst k + s.size ≤ 1048576
          · go_wp2
            go_round
            case rel => exact ⟨k + 1, by omega, by go_num, by rw [ET.out]; go_num, by rw [ET.out]; omega⟩
            case measure => simp [intOf]; omega
          · go_wp2
            all_goals
              go_ret
              exact ⟨BoolIf.no rfl, rfl⟩
        obtain rfl : nst = k := by omega
        by_cases gup : px.size + nq + tot fq nq + pn.size + npa + tot fpa npa + nst + tot fst nst + nup ≤ 1048576
        rotate_left
        · go_wp2
          all_goals
            go_ret
            exact ⟨BoolIf.no rfl, rfl⟩
        go_wp2_with fail
        go_loop [13, 17] (fun z i => ∃ k : Nat, k ≤ nup ∧ i = .int .i64 k ∧ z = .int .i64 ((px.size + nq + tot fq nq + pn.size + npa + tot fpa npa + nst + tot fst nst + nup + tot fup k : Nat) : Int) ∧ px.size + nq + tot fq nq + pn.size + npa + tot fpa npa + nst + tot fst nst + nup + tot fup k ≤ 1048576) (fun _ i => nup - (intOf i).toNat)
        case atStart => exact ⟨0, Nat.zero_le _, rfl, rfl, gup⟩
        case round =>
          obtain ⟨k, hk, rfl, rfl, hbup⟩ := hrel
          by_cases hlt : k < nup
          · rcases hup with ⟨_, h0, _⟩ | ⟨x, rfl, hx⟩
            · omega
            have hc := hx k hlt
            have hs := Zup.out k hlt
            have HX := Lib.hid hx
            clear hx
            have et : tot fup (k + 1) = tot fup k + (fup k).size := rfl
            have ET := Lib.hid et
            clear et
            generalize fup k = s at hc hs ET
            by_cases gs : px.size + nq + tot fq nq + pn.size + npa + tot fpa npa + nst + tot fst nst + nup + tot fup k + s.size ≤ 1048576
            · go_wp2
              go_round
              case rel => exact ⟨k + 1, by omega, by go_num, by rw [ET.out]; go_num, by rw [ET.out]; omega⟩
              case measure => simp [intOf]; omega
            · go_wp2
              all_goals
                go_ret
                exact ⟨BoolIf.no rfl, rfl⟩
          obtain rfl : nup = k := by omega
          go_wp2
          go_ret
          exact ⟨BoolIf.yes rfl (by omega), rfl⟩

set_option maxRecDepth 100000 in
set_option maxHeartbeats 1000000 in
theorem zzb_FnReduceAsTermPrintsSame (aq : Option Addr) (nq cq : Nat) (fq : Nat → ByteArray) (pn : ByteArray) (apa : Option Addr) (npa cpa : Nat) (fpa : Nat → ByteArray) (ast : Option Addr) (nst cst : Nat) (fst : Nat → ByteArray) (aup : Option Addr) (nup cup : Nat) (fup : Nat → ByteArray) (it : Bool) (w : World) (mq : nq ≤ 9223372036854775807) (zq : SzOk fq nq) (hq : StrIn w aq nq cq fq) (mpn : pn.size ≤ 9223372036854775807) (mpa : npa ≤ 9223372036854775807) (zpa : SzOk fpa npa) (hpa : StrIn w apa npa cpa fpa) (mst : nst ≤ 9223372036854775807) (zst : SzOk fst nst) (hst : StrIn w ast nst cst fst) (mup : nup ≤ 9223372036854775807) (zup : SzOk fup nup) (hup : StrIn w aup nup cup fup) :
    Calls Tryd.prog 29 #[.slice aq nq cq, .string pn, .slice apa npa cpa, .slice ast nst cst, .slice aup nup cup, .bool it] w fun e w' => BoolIf (nq + tot fq nq + pn.size + npa + tot fpa npa + nst + tot fst nst + nup + tot fup nup ≤ 1048576) e ∧ w = w' := by
  have Zq := Lib.hid zq
  clear zq
  have Zpa := Lib.hid zpa
  clear zpa
  have Zst := Lib.hid zst
  clear zst
  have Zup := Lib.hid zup
  clear zup
  go_enter Tryd.func29, Tryd.ntmps29
  by_cases gq : nq ≤ 1048576
  rotate_left
  · go_wp2
    all_goals
      go_ret
      exact ⟨BoolIf.no rfl, rfl⟩
  go_wp2_with fail
  go_loop [13, 14] (fun z i => ∃ k : Nat, k ≤ nq ∧ i = .int .i64 k ∧ z = .int .i64 ((nq + tot fq k : Nat) : Int) ∧ nq + tot fq k ≤ 1048576) (fun _ i => nq - (intOf i).toNat)
  case atStart => exact ⟨0, Nat.zero_le _, rfl, rfl, gq⟩
  case round =>
    obtain ⟨k, hk, rfl, rfl, hbq⟩ := hrel
    by_cases hlt : k < nq
    · rcases hq with ⟨_, h0, _⟩ | ⟨x, rfl, hx⟩
      · omega
      have hc := hx k hlt
      have hs := Zq.out k hlt
      have HX := Lib.hid hx
      clear hx
      have et : tot fq (k + 1) = tot fq k + (fq k).size := rfl
      have ET := Lib.hid et
      clear et
      generalize fq k = s at hc hs ET
      by_cases gs : nq + tot fq k + s.size ≤ 1048576
      · go_wp2
        go_round
        case rel => exact ⟨k + 1, by omega, by go_num, by rw [ET.out]; go_num, by rw [ET.out]; omega⟩
        case measure => simp [intOf]; omega
      · go_wp2
        all_goals
          go_ret
          exact ⟨BoolIf.no rfl, rfl⟩
    obtain rfl : nq = k := by omega
    by_cases gpn : nq + tot fq nq + pn.size ≤ 1048576
    rotate_left
    · go_wp2
      all_goals
        go_ret
        exact ⟨BoolIf.no rfl, rfl⟩
    by_cases gpa : nq + tot fq nq + pn.size + npa ≤ 1048576
    rotate_left
    · go_wp2
      all_goals
        go_ret
        exact ⟨BoolIf.no rfl, rfl⟩
    go_wp2_with fail
    go_loop [13, 15] (fun z i => ∃ k : Nat, k ≤ npa ∧ i = .int .i64 k ∧ z = .int .i64 ((nq + tot fq nq + pn.size + npa + tot fpa k : Nat) : Int) ∧ nq + tot fq nq + pn.size + npa + tot fpa k ≤ 1048576) (fun _ i => npa - (intOf i).toNat)
    case atStart => exact ⟨0, Nat.zero_le _, rfl, rfl, gpa⟩
    case round =>
      obtain ⟨k, hk, rfl, rfl, hbpa⟩ := hrel
      by_cases hlt : k < npa
      · rcases hpa with ⟨_, h0, _⟩ | ⟨x, rfl, hx⟩
        · omega
        have hc := hx k hlt
        have hs := Zpa.out k hlt
        have HX := Lib.hid hx
        clear hx
        have et : tot fpa (k + 1) = tot fpa k + (fpa k).size := rfl
        have ET := Lib.hid et
        clear et
        generalize fpa k = s at hc hs ET
        by_cases gs : nq + tot fq nq + pn.size + npa + tot fpa k + s.size ≤ 1048576
        · go_wp2
          go_round
          case rel => exact ⟨k + 1, by omega, by go_num, by rw [ET.out]; go_num, by rw [ET.out]; omega⟩
          case measure => simp [intOf]; omega
        · go_wp2
          all_goals
            go_ret
            exact ⟨BoolIf.no rfl, rfl⟩
      obtain rfl : npa = k := by omega
      by_cases gst : nq + tot fq nq + pn.size + npa + tot fpa npa + nst ≤ 1048576
      rotate_left
      · go_wp2
        all_goals
          go_ret
          exact ⟨BoolIf.no rfl, rfl⟩
      go_wp2_with fail
      go_loop [13, 16] (fun z i => ∃ k : Nat, k ≤ nst ∧ i = .int .i64 k ∧ z = .int .i64 ((nq + tot fq nq + pn.size + npa + tot fpa npa + nst + tot fst k : Nat) : Int) ∧ nq + tot fq nq + pn.size + npa + tot fpa npa + nst + tot fst k ≤ 1048576) (fun _ i => nst - (intOf i).toNat)
      case atStart => exact ⟨0, Nat.zero_le _, rfl, rfl, gst⟩
      case round =>
        obtain ⟨k, hk, rfl, rfl, hbst⟩ := hrel
        by_cases hlt : k < nst
        · rcases hst with ⟨_, h0, _⟩ | ⟨x, rfl, hx⟩
          · omega
          have hc := hx k hlt
          have hs := Zst.out k hlt
          have HX := Lib.hid hx
          clear hx
          have et : tot fst (k + 1) = tot fst k + (fst k).size := rfl
          have ET := Lib.hid et
          clear et
          generalize fst k = s at hc hs ET
          by_cases gs : nq + tot fq nq + pn.size + npa + tot fpa npa + nst + tot fst k + s.size ≤ 1048576
          · go_wp2
            go_round
            case rel => exact ⟨k + 1, by omega, by go_num, by rw [ET.out]; go_num, by rw [ET.out]; omega⟩
            case measure => simp [intOf]; omega
          · go_wp2
            all_goals
              go_ret
              exact ⟨BoolIf.no rfl, rfl⟩
        obtain rfl : nst = k := by omega
        by_cases gup : nq + tot fq nq + pn.size + npa + tot fpa npa + nst + tot fst nst + nup ≤ 1048576
        rotate_left
        · go_wp2
          all_goals
            go_ret
            exact ⟨BoolIf.no rfl, rfl⟩
        go_wp2_with fail
        go_loop [13, 17] (fun z i => ∃ k : Nat, k ≤ nup ∧ i = .int .i64 k ∧ z = .int .i64 ((nq + tot fq nq + pn.size + npa + tot fpa npa + nst + tot fst nst + nup + tot fup k : Nat) : Int) ∧ nq + tot fq nq + pn.size + npa + tot fpa npa + nst + tot fst nst + nup + tot fup k ≤ 1048576) (fun _ i => nup - (intOf i).toNat)
        case atStart => exact ⟨0, Nat.zero_le _, rfl, rfl, gup⟩
        case round =>
          obtain ⟨k, hk, rfl, rfl, hbup⟩ := hrel
          by_cases hlt : k < nup
          · rcases hup with ⟨_, h0, _⟩ | ⟨x, rfl, hx⟩
            · omega
            have hc := hx k hlt
            have hs := Zup.out k hlt
            have HX := Lib.hid hx
            clear hx
            have et : tot fup (k + 1) = tot fup k + (fup k).size := rfl
            have ET := Lib.hid et
            clear et
            generalize fup k = s at hc hs ET
            by_cases gs : nq + tot fq nq + pn.size + npa + tot fpa npa + nst + tot fst nst + nup + tot fup k + s.size ≤ 1048576
            · go_wp2
              go_round
              case rel => exact ⟨k + 1, by omega, by go_num, by rw [ET.out]; go_num, by rw [ET.out]; omega⟩
              case measure => simp [intOf]; omega
            · go_wp2
              all_goals
                go_ret
                exact ⟨BoolIf.no rfl, rfl⟩
          obtain rfl : nup = k := by omega
          go_wp2
          go_ret
          exact ⟨BoolIf.yes rfl (by omega), rfl⟩

set_option maxRecDepth 100000 in
set_option maxHeartbeats 1000000 in
theorem zzb_FnForeachWriteToAppendsToAnyPrefix (px : ByteArray) (aq : Option Addr) (nq cq : Nat) (fq : Nat → ByteArray) (pn : ByteArray) (apa : Option Addr) (npa cpa : Nat) (fpa : Nat → ByteArray) (ast : Option Addr) (nst cst : Nat) (fst : Nat → ByteArray) (aup : Option Addr) (nup cup : Nat) (fup : Nat → ByteArray) (aex : Option Addr) (nex cex : Nat) (fex : Nat → ByteArray) (hx : Bool) (w : World) (mpx : px.size ≤ 9223372036854775807) (mq : nq ≤ 9223372036854775807) (zq : SzOk fq nq) (hq : StrIn w aq nq cq fq) (mpn : pn.size ≤ 9223372036854775807) (mpa : npa ≤ 9223372036854775807) (zpa : SzOk fpa npa) (hpa : StrIn w apa npa cpa fpa) (mst : nst ≤ 9223372036854775807) (zst : SzOk fst nst) (hst : StrIn w ast nst cst fst) (mup : nup ≤ 9223372036854775807) (zup : SzOk fup nup) (hup : StrIn w aup nup cup fup) (mex : nex ≤ 9223372036854775807) (zex : SzOk fex nex) (hex : StrIn w aex nex cex fex) :
    Calls Tryd.prog 17 #[.string px, .slice aq nq cq, .string pn, .slice apa npa cpa, .slice ast nst cst, .slice aup nup cup, .slice aex nex cex, .bool hx] w fun e w' => BoolIf (px.size + nq + tot fq nq + pn.size + npa + tot fpa npa + nst + tot fst nst + nup + tot fup nup + nex + tot fex nex ≤ 1048576) e ∧ w = w' := by
  have Zq := Lib.hid zq
  clear zq
  have Zpa := Lib.hid zpa
  clear zpa
  have Zst := Lib.hid zst
  clear zst
  have Zup := Lib.hid zup
  clear zup
  have Zex := Lib.hid zex
  clear zex
  go_enter Tryd.func17, Tryd.ntmps17
  by_cases gpx : px.size ≤ 1048576
  rotate_left
  · go_wp2
    all_goals
      go_ret
      exact ⟨BoolIf.no rfl, rfl⟩
  by_cases gq : px.size + nq ≤ 1048576
  rotate_left
  · go_wp2
    all_goals
      go_ret
      exact ⟨BoolIf.no rfl, rfl⟩
  go_wp2_with fail
  go_loop [17, 18] (fun z i => ∃ k : Nat, k ≤ nq ∧ i = .int .i64 k ∧ z = .int .i64 ((px.size + nq + tot fq k : Nat) : Int) ∧ px.size + nq + tot fq k ≤ 1048576) (fun _ i => nq - (intOf i).toNat)
  case atStart => exact ⟨0, Nat.zero_le _, rfl, rfl, gq⟩
  case round =>
    obtain ⟨k, hk, rfl, rfl, hbq⟩ := hrel
    by_cases hlt : k < nq
    · rcases hq with ⟨_, h0, _⟩ | ⟨x, rfl, hx⟩
      · omega
      have hc := hx k hlt
      have hs := Zq.out k hlt
      have HX := Lib.hid hx
      clear hx
      have et : tot fq (k + 1) = tot fq k + (fq k).size := rfl
      have ET := Lib.hid et
      clear et
      generalize fq k = s at hc hs ET
      by_cases gs : px.size + nq + tot fq k + s.size ≤ 1048576
      · go_wp2
        go_round
        case rel => exact ⟨k + 1, by omega, by go_num, by rw [ET.out]; go_num, by rw [ET.out]; omega⟩
        case measure => simp [intOf]; omega
      · go_wp2
        all_goals
          go_ret
          exact ⟨BoolIf.no rfl, rfl⟩
    obtain rfl : nq = k := by omega
    by_cases gpn : px.size + nq + tot fq nq + pn.size ≤ 1048576
    rotate_left
    · go_wp2
      all_goals
        go_ret
        exact ⟨BoolIf.no rfl, rfl⟩
    by_cases gpa : px.size + nq + tot fq nq + pn.size + npa ≤ 1048576
    rotate_left
    · go_wp2
      all_goals
        go_ret
        exact ⟨BoolIf.no rfl, rfl⟩
    go_wp2_with fail
    go_loop [17, 19] (fun z i => ∃ k : Nat, k ≤ npa ∧ i = .int .i64 k ∧ z = .int .i64 ((px.size + nq + tot fq nq + pn.size + npa + tot fpa k : Nat) : Int) ∧ px.size + nq + tot fq nq + pn.size + npa + tot fpa k ≤ 1048576) (fun _ i => npa - (intOf i).toNat)
    case atStart => exact ⟨0, Nat.zero_le _, rfl, rfl, gpa⟩
    case round =>
      obtain ⟨k, hk, rfl, rfl, hbpa⟩ := hrel
      by_cases hlt : k < npa
      · rcases hpa with ⟨_, h0, _⟩ | ⟨x, rfl, hx⟩
        · omega
        have hc := hx k hlt
        have hs := Zpa.out k hlt
        have HX := Lib.hid hx
        clear hx
        have et : tot fpa (k + 1) = tot fpa k + (fpa k).size := rfl
        have ET := Lib.hid et
        clear et
        generalize fpa k = s at hc hs ET
        by_cases gs : px.size + nq + tot fq nq + pn.size + npa + tot fpa k + s.size ≤ 1048576
        · go_wp2
          go_round
          case rel => exact ⟨k + 1, by omega, by go_num, by rw [ET.out]; go_num, by rw [ET.out]; omega⟩
          case measure => simp [intOf]; omega
        · go_wp2
          all_goals
            go_ret
            exact ⟨BoolIf.no rfl, rfl⟩
      obtain rfl : npa = k := by omega
      by_cases gst : px.size + nq + tot fq nq + pn.size + npa + tot fpa npa + nst ≤ 1048576
      rotate_left
      · go_wp2
        all_goals
          go_ret
          exact ⟨BoolIf.no rfl, rfl⟩
      go_wp2_with fail
      go_loop [17, 20] (fun z i => ∃ k : Nat, k ≤ nst ∧ i = .int .i64 k ∧ z = .int .i64 ((px.size + nq + tot fq nq + pn.size + npa + tot fpa npa + nst + tot fst k : Nat) : Int) ∧ px.size + nq + tot fq nq + pn.size + npa + tot fpa npa + nst + tot fst k ≤ 1048576) (fun _ i => nst - (intOf i).toNat)
      case atStart => exact ⟨0, Nat.zero_le _, rfl, rfl, gst⟩
      case round =>
        obtain ⟨k, hk, rfl, rfl, hbst⟩ := hrel
        by_cases hlt : k < nst
        · rcases hst with ⟨_, h0, _⟩ | ⟨x, rfl, hx⟩
          · omega
          have hc := hx k hlt
          have hs := Zst.out k hlt
          have HX := Lib.hid hx
          clear hx
          have et : tot fst (k + 1) = tot fst k + (fst k).size := rfl
          have ET := Lib.hid et
          clear et
          generalize fst k = s at hc hs ET
          by_cases gs : px.size + nq + tot fq nq + pn.size + npa + tot fpa npa + nst + tot fst k + s.size ≤ 1048576
          · go_wp2
            go_round
            case rel => exact ⟨k + 1, by omega, by go_num, by rw [ET.out]; go_num, by rw [ET.out]; omega⟩
            case measure => simp [intOf]; omega
          · go_wp2
            all_goals
              go_ret
              exact ⟨BoolIf.no rfl, rfl⟩
        obtain rfl : nst = k := by omega
        by_cases gup : px.size + nq + tot fq nq + pn.size + npa + tot fpa npa + nst + tot fst nst + nup ≤ 1048576
        rotate_left
        · go_wp2
          all_goals
            go_ret
            exact ⟨BoolIf.no rfl, rfl⟩
        go_wp2_with fail
        go_loop [17, 21] (fun z i => ∃ k : Nat, k ≤ nup ∧ i = .int .i64 k ∧ z = .int .i64 ((px.size + nq + tot fq nq + pn.size + npa + tot fpa npa + nst + tot fst nst + nup + tot fup k : Nat) : Int) ∧ px.size + nq + tot fq nq + pn.size + npa + tot fpa npa + nst + tot fst nst + nup + tot fup k ≤ 1048576) (fun _ i => nup - (intOf i).toNat)
        case atStart => exact ⟨0, Nat.zero_le _, rfl, rfl, gup⟩
        case round =>
          obtain ⟨k, hk, rfl, rfl, hbup⟩ := hrel
          by_cases hlt : k < nup
          · rcases hup with ⟨_, h0, _⟩ | ⟨x, rfl, hx⟩
            · omega
            have hc := hx k hlt
            have hs := Zup.out k hlt
            have HX := Lib.hid hx
            clear hx
            have et : tot fup (k + 1) = tot fup k + (fup k).size := rfl
            have ET := Lib.hid et
            clear et
            generalize fup k = s at hc hs ET
            by_cases gs : px.size + nq + tot fq nq + pn.size + npa + tot fpa npa + nst + tot fst nst + nup + tot fup k + s.size ≤ 1048576
            · go_wp2
              go_round
              case rel => exact ⟨k + 1, by omega, by go_num, by rw [ET.out]; go_num, by rw [ET.out]; omega⟩
              case measure => simp [intOf]; omega
            · go_wp2
              all_goals
                go_ret
                exact ⟨BoolIf.no rfl, rfl⟩
          obtain rfl : nup = k := by omega
          by_cases gex : px.size + nq + tot fq nq + pn.size + npa + tot fpa npa + nst + tot fst nst + nup + tot fup nup + nex ≤ 1048576
          rotate_left
          · go_wp2
            all_goals
              go_ret
              exact ⟨BoolIf.no rfl, rfl⟩
          go_wp2_with fail
          go_loop [17, 22] (fun z i => ∃ k : Nat, k ≤ nex ∧ i = .int .i64 k ∧ z = .int .i64 ((px.size + nq + tot fq nq + pn.size + npa + tot fpa npa + nst + tot fst nst + nup + tot fup nup + nex + tot fex k : Nat) : Int) ∧ px.size + nq + tot fq nq + pn.size + npa + tot fpa npa + nst + tot fst nst + nup + tot fup nup + nex + tot fex k ≤ 1048576) (fun _ i => nex - (intOf i).toNat)
          case atStart => exact ⟨0, Nat.zero_le _, rfl, rfl, gex⟩
          case round =>
            obtain ⟨k, hk, rfl, rfl, hbex⟩ := hrel
            by_cases hlt : k < nex
            · rcases hex with ⟨_, h0, _⟩ | ⟨x, rfl, hx⟩
              · omega
              have hc := hx k hlt
              have hs := Zex.out k hlt
              have HX := Lib.hid hx
              clear hx
              have et : tot fex (k + 1) = tot fex k + (fex k).size := rfl
              have ET := Lib.hid et
              clear et
              generalize fex k = s at hc hs ET
              by_cases gs : px.size + nq + tot fq nq + pn.size + npa + tot fpa npa + nst + tot fst nst + nup + tot fup nup + nex + tot fex k + s.size ≤ 1048576
              · go_wp2
                go_round
                case rel => exact ⟨k + 1, by omega, by go_num, by rw [ET.out]; go_num, by rw [ET.out]; omega⟩
                case measure => simp [intOf]; omega
              · go_wp2
                all_goals
                  go_ret
                  exact ⟨BoolIf.no rfl, rfl⟩
            obtain rfl : nex = k := by omega
            go_wp2
            go_ret
            exact ⟨BoolIf.yes rfl (by omega), rfl⟩

set_option maxRecDepth 100000 in
set_option maxHeartbeats 1000000 in
theorem zzb_FnForeachAsPipeHeadPrintsSame (aq : Option Addr) (nq cq : Nat) (fq : Nat → ByteArray) (pn : ByteArray) (apa : Option Addr) (npa cpa : Nat) (fpa : Nat → ByteArray) (ast : Option Addr) (nst cst : Nat) (fst : Nat → ByteArray) (aup : Option Addr) (nup cup : Nat) (fup : Nat → ByteArray) (aex : Option Addr) (nex cex : Nat) (fex : Nat → ByteArray) (hx : Bool) (tl : ByteArray) (w : World) (mq : nq ≤ 9223372036854775807) (zq : SzOk fq nq) (hq : StrIn w aq nq cq fq) (mpn : pn.size ≤ 9223372036854775807) (mpa : npa ≤ 9223372036854775807) (zpa : SzOk fpa npa) (hpa : StrIn w apa npa cpa fpa) (mst : nst ≤ 9223372036854775807) (zst : SzOk fst nst) (hst : StrIn w ast nst cst fst) (mup : nup ≤ 9223372036854775807) (zup : SzOk fup nup) (hup : StrIn w aup nup cup fup) (mex : nex ≤ 9223372036854775807) (zex : SzOk fex nex) (hex : StrIn w aex nex cex fex) (mtl : tl.size ≤ 9223372036854775807) :
    Calls Tryd.prog 24 #[.slice aq nq cq, .string pn, .slice apa npa cpa, .slice ast nst cst, .slice aup nup cup, .slice aex nex cex, .bool hx, .string tl] w fun e w' => BoolIf (nq + tot fq nq + pn.size + npa + tot fpa npa + nst + tot fst nst + nup + tot fup nup + nex + tot fex nex + tl.size ≤ 1048576) e ∧ w = w' := by
  have Zq := Lib.hid zq
  clear zq
  have Zpa := Lib.hid zpa
  clear zpa
  have Zst := Lib.hid zst
  clear zst
  have Zup := Lib.hid zup
  clear zup
  have Zex := Lib.hid zex
  clear zex
  go_enter Tryd.func24, Tryd.ntmps24
  by_cases gq : nq ≤ 1048576
  rotate_left
  · go_wp2
    all_goals
      go_ret
      exact ⟨BoolIf.no rfl, rfl⟩
  go_wp2_with fail
  go_loop [17, 18] (fun z i => ∃ k : Nat, k ≤ nq ∧ i = .int .i64 k ∧ z = .int .i64 ((nq + tot fq k : Nat) : Int) ∧ nq + tot fq k ≤ 1048576) (fun _ i => nq - (intOf i).toNat)
  case atStart => exact ⟨0, Nat.zero_le _, rfl, rfl, gq⟩
  case round =>
    obtain ⟨k, hk, rfl, rfl, hbq⟩ := hrel
    by_cases hlt : k < nq
    · rcases hq with ⟨_, h0, _⟩ | ⟨x, rfl, hx⟩
      · omega
      have hc := hx k hlt
      have hs := Zq.out k hlt
      have HX := Lib.hid hx
      clear hx
      have et : tot fq (k + 1) = tot fq k + (fq k).size := rfl
      have ET := Lib.hid et
      clear et
      generalize fq k = s at hc hs ET
      by_cases gs : nq + tot fq k + s.size ≤ 1048576
      · go_wp2
        go_round
        case rel => exact ⟨k + 1, by omega, by go_num, by rw [ET.out]; go_num, by rw [ET.out]; omega⟩
        case measure => simp [intOf]; omega
      · go_wp2
        all_goals
          go_ret
          exact ⟨BoolIf.no rfl, rfl⟩
    obtain rfl : nq = k := by omega
    by_cases gpn : nq + tot fq nq + pn.size ≤ 1048576
    rotate_left
    · go_wp2
      all_goals
        go_ret
        exact ⟨BoolIf.no rfl, rfl⟩
    by_cases gpa : nq + tot fq nq + pn.size + npa ≤ 1048576
    rotate_left
    · go_wp2
      all_goals
        go_ret
        exact ⟨BoolIf.no rfl, rfl⟩
    go_wp2_with fail
    go_loop [17, 19] (fun z i => ∃ k : Nat, k ≤ npa ∧ i = .int .i64 k ∧ z = .int .i64 ((nq + tot fq nq + pn.size + npa + tot fpa k : Nat) : Int) ∧ nq + tot fq nq + pn.size + npa + tot fpa k ≤ 1048576) (fun _ i => npa - (intOf i).toNat)
    case atStart => exact ⟨0, Nat.zero_le _, rfl, rfl, gpa⟩
    case round =>
      obtain ⟨k, hk, rfl, rfl, hbpa⟩ := hrel
      by_cases hlt : k < npa
      · rcases hpa with ⟨_, h0, _⟩ | ⟨x, rfl, hx⟩
        · omega
        have hc := hx k hlt
        have hs := Zpa.out k hlt
        have HX := Lib.hid hx
        clear hx
        have et : tot fpa (k + 1) = tot fpa k + (fpa k).size := rfl
        have ET := Lib.hid et
        clear et
        generalize fpa k = s at hc hs ET
        by_cases gs : nq + tot fq nq + pn.size + npa + tot fpa k + s.size ≤ 1048576
        · go_wp2
          go_round
          case rel => exact ⟨k + 1, by omega, by go_num, by rw [ET.out]; go_num, by rw [ET.out]; omega⟩
          case measure => simp [intOf]; omega
        · go_wp2
          all_goals
            go_ret
            exact ⟨BoolIf.no rfl, rfl⟩
      obtain rfl : npa = k := by omega
      by_cases gst : nq + tot fq nq + pn.size + npa + tot fpa npa + nst ≤ 1048576
      rotate_left
      · go_wp2
        all_goals
          go_ret
          exact ⟨BoolIf.no rfl, rfl⟩
      go_wp2_with fail
      go_loop [17, 20] (fun z i => ∃ k : Nat, k ≤ nst ∧ i = .int .i64 k ∧ z = .int .i64 ((nq + tot fq nq + pn.size + npa + tot fpa npa + nst + tot fst k : Nat) : Int) ∧ nq + tot fq nq + pn.size + npa + tot fpa npa + nst + tot fst k ≤ 1048576) (fun _ i => nst - (intOf i).toNat)
      case atStart => exact ⟨0, Nat.zero_le _, rfl, rfl, gst⟩
      case round =>
        obtain ⟨k, hk, rfl, rfl, hbst⟩ := hrel
        by_cases hlt : k < nst
        · rcases hst with ⟨_, h0, _⟩ | ⟨x, rfl, hx⟩
          · omega
          have hc := hx k hlt
          have hs := Zst.out k hlt
          have HX := Lib.hid hx
          clear hx
          have et : tot fst (k + 1) = tot fst k + (fst k).size := rfl
          have ET := Lib.hid et
          clear et
          generalize fst k = s at hc hs ET
          by_cases gs : nq + tot fq nq + pn.size + npa + tot fpa npa + nst + tot fst k + s.size ≤ 1048576
          · go_wp2
            go_round
            case rel => exact ⟨k + 1, by omega, by go_num, by rw [ET.out]; go_num, by rw [ET.out]; omega⟩
            case measure => simp [intOf]; omega
          · go_wp2
            all_goals
              go_ret
              exact ⟨BoolIf.no rfl, rfl⟩
        obtain rfl : nst = k := by omega
        by_cases gup : nq + tot fq nq + pn.size + npa + tot fpa npa + nst + tot fst nst + nup ≤ 1048576
        rotate_left
        · go_wp2
          all_goals
            go_ret
            exact ⟨BoolIf.no rfl, rfl⟩
        go_wp2_with fail
        go_loop [17, 21] (fun z i => ∃ k : Nat, k ≤ nup ∧ i = .int .i64 k ∧ z = .int .i64 ((nq + tot fq nq + pn.size + npa + tot fpa npa + nst + tot fst nst + nup + tot fup k : Nat) : Int) ∧ nq + tot fq nq + pn.size + npa + tot fpa npa + nst + tot fst nst + nup + tot fup k ≤ 1048576) (fun _ i => nup - (intOf i).toNat)
        case atStart => exact ⟨0, Nat.zero_le _, rfl, rfl, gup⟩
        case round =>
          obtain ⟨k, hk, rfl, rfl, hbup⟩ := hrel
          by_cases hlt : k < nup
          · rcases hup with ⟨_, h0, _⟩ | ⟨x, rfl, hx⟩
            · omega
            have hc := hx k hlt
            have hs := Zup.out k hlt
            have HX := Lib.hid hx
            clear hx
            have et : tot fup (k + 1) = tot fup k + (fup k).size := rfl
            have ET := Lib.hid et
            clear et
            generalize fup k = s at hc hs ET
            by_cases gs : nq + tot fq nq + pn.size + npa + tot fpa npa + nst + tot fst nst + nup + tot fup k + s.size ≤ 1048576
            · go_wp2
              go_round
              case rel => exact ⟨k + 1, by omega, by go_num, by rw [ET.out]; go_num, by rw [ET.out]; omega⟩
              case measure => simp [intOf]; omega
            · go_wp2
              all_goals
                go_ret
                exact ⟨BoolIf.no rfl, rfl⟩
          obtain rfl : nup = k := by omega
          by_cases gex : nq + tot fq nq + pn.size + npa + tot fpa npa + nst + tot fst nst + nup + tot fup nup + nex ≤ 1048576
          rotate_left
          · go_wp2
            all_goals
              go_ret
              exact ⟨BoolIf.no rfl, rfl⟩
          go_wp2_with fail
          go_loop [17, 22] (fun z i => ∃ k : Nat, k ≤ nex ∧ i = .int .i64 k ∧ z = .int .i64 ((nq + tot fq nq + pn.size + npa + tot fpa npa + nst + tot fst nst + nup + tot fup nup + nex + tot fex k : Nat) : Int) ∧ nq + tot fq nq + pn.size + npa + tot fpa npa + nst + tot fst nst + nup + tot fup nup + nex + tot fex k ≤ 1048576) (fun _ i => nex - (intOf i).toNat)
          case atStart => exact ⟨0, Nat.zero_le _, rfl, rfl, gex⟩
          case round =>
            obtain ⟨k, hk, rfl, rfl, hbex⟩ := hrel
            by_cases hlt : k < nex
            · rcases hex with ⟨_, h0, _⟩ | ⟨x, rfl, hx⟩
              · omega
              have hc := hx k hlt
              have hs := Zex.out k hlt
              have HX := Lib.hid hx
              clear hx
              have et : tot fex (k + 1) = tot fex k + (fex k).size := rfl
              have ET := Lib.hid et
              clear et
              generalize fex k = s at hc hs ET
              by_cases gs : nq + tot fq nq + pn.size + npa + tot fpa npa + nst + tot fst nst + nup + tot fup nup + nex + tot fex k + s.size ≤ 1048576
              · go_wp2
                go_round
                case rel => exact ⟨k + 1, by omega, by go_num, by rw [ET.out]; go_num, by rw [ET.out]; omega⟩
                case measure => simp [intOf]; omega
              · go_wp2
                all_goals
                  go_ret
                  exact ⟨BoolIf.no rfl, rfl⟩
            obtain rfl : nex = k := by omega
            by_cases gtl : nq + tot fq nq + pn.size + npa + tot fpa npa + nst + tot fst nst + nup + tot fup nup + nex + tot fex nex + tl.size ≤ 1048576
            rotate_left
            · go_wp2
              all_goals
                go_ret
                exact ⟨BoolIf.no rfl, rfl⟩
            go_wp2
            go_ret
            exact ⟨BoolIf.yes rfl (by omega), rfl⟩
end Go.Proofs.YtboekgedfhdaaaaDoor
