/- The walk of FnWriteStringScriptMatchesConcat. -/
import Derived.Test.YtbeoamdbkknecaaSl
set_option linter.unusedVariables false
namespace Go.Proofs.Ytbeoamdbkknecaa
open Go.RowKit

theorem Try.info9 : (Try.prog.info? 9).map (fun i => (i.zero, i.size, i.bytes)) = some (some (.string ByteArray.empty), 1, 16) := by kernel_rfl

/-- The lengths of the first k strings, summed. -/
def tot (ss : Nat → ByteArray) : Nat → Nat
  | 0 => 0
  | k + 1 => tot ss k + (ss k).size
/-- The bytes of the first k strings, one behind the other. -/
def cat (ss : Nat → ByteArray) : Nat → Nat → Int
  | 0 => fun _ => 0
  | k + 1 => pushN (cat ss k) (tot ss k) (ss k).size (PlainAid.bt (ss k))
theorem tot_mono (ss : Nat → ByteArray) (k d : Nat) : tot ss k ≤ tot ss (k + d) := by
  induction d with
  | zero => exact Nat.le_refl _
  | succ d ih => exact Nat.le_trans ih (Nat.le_add_right _ _)
theorem tot_le (ss : Nat → ByteArray) {k n : Nat} (h : k ≤ n) : tot ss k ≤ tot ss n := by
  obtain ⟨d, rfl⟩ := Nat.exists_eq_add_of_le h
  exact tot_mono ss k d
theorem tot_at (ss : Nat → ByteArray) {k n : Nat} (h : k < n) : tot ss k + (ss k).size ≤ tot ss n := tot_le ss (k := k + 1) h
theorem cat_at (ss : Nat → ByteArray) (i j : Nat) (hj : j < (ss i).size) : ∀ d, cat ss (i + 1 + d) (tot ss i + j) = PlainAid.bt (ss i) j
  | 0 => pushN_at _ _ _ _ _ hj
  | d + 1 => by
    have h1 : tot ss i + (ss i).size ≤ tot ss (i + 1 + d) := tot_at ss (by omega)
    show pushN (cat ss (i + 1 + d)) (tot ss (i + 1 + d)) _ _ _ = _
    rw [pushN_old _ _ _ _ _ (by omega)]
    exact cat_at ss i j hj d
theorem cat_is (ss : Nat → ByteArray) {i n : Nat} (j : Nat) (hi : i < n) (hj : j < (ss i).size) : cat ss n (tot ss i + j) = PlainAid.bt (ss i) j := by
  obtain ⟨d, rfl⟩ := Nat.exists_eq_add_of_le (show i + 1 ≤ n from hi)
  exact cat_at ss i j hj d

/-- A slice of strings that came in. -/
def StrIn (w : World) (a : Option Addr) (n c : Nat) (ss : Nat → ByteArray) : Prop :=
  (a = none ∧ n = 0 ∧ c = 0) ∨ ∃ x, a = some x ∧ ∀ i, i < n → w.cell? (x.add i) = some (.string (ss i))

/-- A Bool comes back; if it is true, P holds. -/
def BoolIf (P : Prop) (e : Ending) : Prop := ∃ r : Bool, e = .returned (.bool r) ∧ (r = true → P)
theorem BoolIf.no {P : Prop} {e : Ending} (h : e = .returned (.bool false)) : BoolIf P e := ⟨false, h, fun h => by cases h⟩
theorem BoolIf.yes {P : Prop} {e : Ending} (h : e = .returned (.bool true)) (hP : P) : BoolIf P e := ⟨true, h, fun _ => hP⟩
/-- zzBytes: true tells that all is short. -/
theorem zzb10 (m : Int) (a : Option Addr) (n c : Nat) (ss : Nat → ByteArray) (w : World) (hn : n ≤ 9223372036854775807) (hz : ∀ i, i < n → (ss i).size ≤ 9223372036854775807) (h : StrIn w a n c ss) :
    Calls Try.prog 10 #[.int .i64 m, .slice a n c] w fun e w' => BoolIf (n + tot ss n ≤ 1048576) e ∧ w = w' := by
  have HZ := Lib.hid hz
  clear hz
  by_cases hl : n ≤ 1048576
  · go_enter Try.func10, Try.ntmps10
    go_wp2
    go_loop [5, 6] (fun z i => ∃ k : Nat, k ≤ n ∧ i = .int .i64 k ∧ z = .int .i64 ((n + tot ss k : Nat) : Int) ∧ n + tot ss k ≤ 1048576) (fun _ i => n - (intOf i).toNat)
    case atStart => exact ⟨0, Nat.zero_le _, rfl, rfl, hl⟩
    case round =>
      obtain ⟨k, hk, rfl, rfl, hb⟩ := hrel
      by_cases hlt : k < n
      · rcases h with ⟨_, h0, _⟩ | ⟨x, rfl, hx⟩
        · omega
        have hc := hx k hlt
        have hs := HZ.out k hlt
        have HX := Lib.hid hx
        clear hx
        have et : tot ss (k + 1) = tot ss k + (ss k).size := rfl
        have ET := Lib.hid et
        clear et
        generalize ss k = s at hc hs ET
        go_wp2
        · go_ret
          exact ⟨BoolIf.no rfl, rfl⟩
        · go_ret
          exact ⟨BoolIf.no rfl, rfl⟩
        · go_round
          case rel => exact ⟨k + 1, by omega, by go_num, by rw [ET.out]; go_num, by rw [ET.out]; omega⟩
          case measure => simp [intOf]; omega
      · obtain rfl : k = n := by omega
        have HB := Lib.hid hb
        clear hb
        go_wp2
        go_ret
        exact ⟨BoolIf.yes rfl HB.out, rfl⟩
  · go_enter Try.func10, Try.ntmps10
    go_wp2
    go_ret
    exact ⟨BoolIf.no rfl, rfl⟩

/-- The strings in a row of the call's own. -/
def SRow (w : World) (B : Nat) (g n : Nat) (ss : Nat → ByteArray) : Prop := B ≤ g ∧ w.rowIs g 9 n (fun i => .string (ss i))
theorem SRow.only {w w' : World} {B g n b g' : Nat} {ss : Nat → ByteArray} (h : SRow w B g n ss) (hO : Only b g' w w') (h1 : g ≠ b) (h2 : g ≠ g') : SRow w' B g n ss :=
  ⟨h.1, h.2.of_block (hO.block g h.2.lt h1 h2)⟩
theorem SRow.below {w w' : World} {B g n : Nat} {ss : Nat → ByteArray} (h : SRow w B g n ss) (hb : Below w.heap.size w w') : SRow w' B g n ss := ⟨h.1, h.2.of_block (hb.block g h.2.lt)⟩
theorem SRow.qt {w w' : World} {B g n : Nat} {ss : Nat → ByteArray} (h : SRow w B g n ss) (hq : Qt w w') : SRow w' B g n ss := ⟨h.1, hq.row h.2⟩

set_option maxRecDepth 100000 in
set_option maxHeartbeats 2000000 in
theorem law3_some (N : Int) (x : Addr) (n c : Nat) (ss : Nat → ByteArray) (w : World) (hn : n ≤ 9223372036854775807) (hz : ∀ i, i < n → (ss i).size ≤ 9223372036854775807) (hx : ∀ i, i < n → w.cell? (x.add i) = some (.string (ss i))) :
    Calls Try.prog 3 #[.int .i64 N, .slice (some x) n c] w fun e w' => e = .returned (.bool true) ∧ Below w.heap.size w w' := by
  have HC := Lib.hid (zzb10 N (some x) n c ss w hn hz (Or.inr ⟨x, rfl, hx⟩))
  have HX := Lib.hid hx
  clear hx hz
  go_enter Try.func3, Try.ntmps3
  go_wp2_with fail
  refine HC.out.mono ?_
  rintro e w1 ⟨⟨r, rfl, hr⟩, rfl⟩
  clear HC
  cases r
  · go_wp2_with fail
    go_ret
    exact ⟨rfl, Below.refl _ _⟩
  have hb := hr rfl
  clear hr
  by_cases h4 : 4096 < n
  · go_wp2_with fail
    go_ret
    exact ⟨rfl, Below.refl _ _⟩
  have hq := fun W => run_neq_slice_nil_any (P := Try.prog) W 22 9 (some x) n c 0 0 Try.underlying22
  have hmk := run_make_row' (P := Try.prog) 22 9 (.string ByteArray.empty) 16 Try.underlying22 Try.info9 rfl .i64 .i64 n (by omega) (by omega)
  have HB := Lib.hid hb
  clear hb
  go_wp2_with fail
  go_loop [5, 6, 7] (fun t s i => ∃ k : Nat, k ≤ n ∧ i = .int .i64 k ∧ t = .int .i64 (tot ss k : Nat) ∧ ∃ z : Int, s = .int .i64 z ∧ 0 ≤ z ∧ z ≤ 1048576) (fun _ _ i => n - (intOf i).toNat)
  case atStart => exact ⟨0, Nat.zero_le _, rfl, rfl, _, rfl, by omega, by omega⟩
  case round =>
    obtain ⟨k, hk, rfl, rfl, z, rfl, z0, z1⟩ := hrel
    have ht : tot ss k ≤ tot ss n := tot_le ss hk
    have ht2 : n + tot ss n ≤ 1048576 := HB.out
    by_cases hlt : k < n
    · have hc := HX.out k hlt
      have ET := Lib.hid (show tot ss (k + 1) = tot ss k + (ss k).size from rfl)
      have h5 : tot ss k + (ss k).size ≤ tot ss n := tot_at ss hlt
      generalize ss k = s at hc ET h5
      have y1 : tot ss k ≤ 1048576 := by omega
      have y2 : s.size ≤ 1048576 := by omega
      have y3 : tot ss k + s.size ≤ 1048576 := by omega
      clear ht ht2 h5
      generalize tot ss k = t at ET y1 y3 ⊢
      go_wp2_with fail
      · go_ret
        exact ⟨rfl, Below.refl _ _⟩
      · go_round
        case rel => exact ⟨k + 1, by omega, by go_num, by rw [ET.out]; go_num, _, rfl, by omega, by assumption⟩
        case measure => simp [intOf]; omega
    · obtain rfl : n = k := by omega
      clear ht
      by_cases n1 : N < 1
      · go_wp2_with fail
        go_ret
        exact ⟨rfl, Below.refl _ _⟩
      by_cases n2 : 65536 < N
      · go_wp2_with fail
        go_ret
        exact ⟨rfl, Below.refl _ _⟩
      by_cases n3 : N ≤ (tot ss n : Nat)
      · go_wp2_with fail
        go_ret
        exact ⟨rfl, Below.refl _ _⟩
      obtain ⟨M, rfl⟩ : ∃ M : Nat, N = (M : Int) := ⟨N.toNat, by omega⟩
      have hM : tot ss n < M := by omega
      have hM2 : M ≤ 65536 := by omega
      clear ht2 n1 n2 n3 h4
      have hn4 : n ≤ 1048576 := by have := HB.out; omega
      go_wp2_with fail
      go_loopw [9] (fun i wr => ∃ k : Nat, k ≤ n ∧ i = .int .i64 k ∧ wr.rowIs w.heap.size 9 n (fun j => .string (if j < k then ss j else ByteArray.empty)) ∧ Below w.heap.size w wr) (fun i _ => n - (intOf i).toNat)
      case atStart => exact ⟨0, Nat.zero_le _, rfl, (World.rowIs_made w _ n 9).congr (fun j _ => by simp), (Below.refl _ _).alloc (Nat.le_refl _) _⟩
      case round =>
        clear hmk hq
        obtain ⟨k, hk, rfl, hrow, hb⟩ := hrel
        by_cases hlt2 : k < n
        · have hxl : (x.add k).block < w.heap.size := block_lt_of_cell (HX.out k hlt2)
          have hc : wr.cell? (x.add k) = some (.string (ss k)) := (hb.cell hxl).trans (HX.out k hlt2)
          have hd := hrow.cell hlt2
          have hf := hrow.frozen k
          go_wp2_with fail
          go_roundw
          case rel =>
            refine ⟨k + 1, by omega, by go_num, (hrow.set k (.string (ss k))).congr (fun j hj => ?_), hb.setCell (p := ⟨w.heap.size, k, none⟩) (Nat.le_refl _) _⟩
            by_cases e : j = k
            · subst e; simp
            · rw [if_neg e]; congr 1; by_cases e2 : j < k
              · rw [if_pos e2, if_pos (by omega)]
              · rw [if_neg e2, if_neg (by omega)]
          case measure => simp [intOf]; omega
        · obtain rfl : n = k := by omega
          have hS : SRow wr w.heap.size w.heap.size n ss := ⟨Nat.le_refl _, hrow.congr (fun j hj => by rw [if_pos hj])⟩
          have hgl := hrow.lt
          clear hrow
          go_wp2_with fail
          refine (newA M wr hM2).mono ?_
          rintro e w4 ⟨rfl, l4, b4⟩
          have hS4 := hS.below b4
          have B4 : Below w.heap.size w w4 := hb.trans (b4.mono hb.size)
          have LB := hb.size
          clear hS b4 hb
          obtain ⟨wo, rfl⟩ : ∃ wo : World, wo = wr := ⟨_, rfl⟩
          go_wp2_with fail
          go_loopw [11] (fun i wr => ∃ k : Nat, k ≤ n ∧ i = .int .i64 k ∧ LW wr wo.heap.size (wo.heap.size + 1) wo.heap.size M (tot ss k) (cat ss k) ∧ SRow wr w.heap.size w.heap.size n ss ∧ Below w.heap.size w wr) (fun i _ => n - (intOf i).toNat)
          case atStart => exact ⟨0, Nat.zero_le _, rfl, l4, hS4, B4⟩
          case round =>
            clear l4 hS4 B4
            obtain ⟨k, hk, rfl, hl, hS, hb⟩ := hrel
            by_cases hlt3 : k < n
            · have hc := hS.2.cell hlt3
              have hsum : tot ss k + (ss k).size < M := Nat.lt_of_le_of_lt (tot_at ss hlt3) hM
              go_wp2_with fail
              refine (writeString _ _ _ _ _ _ _ (ss k) hl hM2 hsum).mono ?_
              rintro e w6 ⟨rfl, l6, o6⟩
              have B6 := o6.below hb hb.size (by omega) (by omega)
              have S6 := hS.only o6 (by omega) (by omega)
              have hc6 := S6.2.cell hlt3
              clear hsum
              go_wp2_with fail
              go_roundw
              case rel => exact ⟨k + 1, by omega, by go_num, l6, S6, B6⟩
              case measure => simp [intOf]; omega
            · obtain rfl : n = k := by omega
              go_wp2_with fail
              refine (bytesA _ _ _ _ _ _ _ hl hM2).mono ?_
              rintro e wz ⟨rfl, qz⟩
              have lz := qz.lw hl
              have Sz := hS.qt qz
              have Bz := qz.below hb
              clear hl hS hb qz
              go_wp2_with fail
              go_loopw [15, 16] (fun p i wr => ∃ k : Nat, k ≤ n ∧ i = .int .i64 k ∧ p = .int .i64 (tot ss k : Nat) ∧ Qt wz wr) (fun _ i _ => n - (intOf i).toNat)
              case atStart => exact ⟨0, Nat.zero_le _, rfl, rfl, Qt.refl _⟩
              case round =>
                obtain ⟨k, hk, rfl, rfl, hq⟩ := hrel
                by_cases hlt4 : k < n
                · have hc := (Sz.qt hq).2.cell hlt4
                  have ht5 : tot ss k + (ss k).size ≤ tot ss n := tot_at ss hlt4
                  have HT := Lib.hid ht5
                  have ET := Lib.hid (show tot ss (k + 1) = tot ss k + (ss k).size from rfl)
                  have HBT := Lib.hid (PlainAid.get_bt (ss k))
                  have HCAT := Lib.hid (fun j (hj : j < (ss k).size) => cat_is ss j hlt4 hj)
                  clear ht5
                  generalize ss k = s at hc HT ET HBT HCAT
                  generalize tot ss k = tk at HT ET HCAT ⊢
                  have y1 : tk + s.size ≤ 65536 := by have := HT.out; omega
                  obtain ⟨wo2, rfl⟩ : ∃ wo2 : World, wo2 = wr := ⟨_, rfl⟩
                  go_wp2_with fail
                  go_loopw [15, 18] (fun p i wr => ∃ j : Nat, j ≤ s.size ∧ i = .int .i64 j ∧ p = .int .i64 ((tk + j : Nat) : Int) ∧ Qt wz wr) (fun _ i _ => s.size - (intOf i).toNat)
                  case atStart => exact ⟨0, Nat.zero_le _, rfl, rfl, hq⟩
                  case round =>
                    clear hq hc
                    obtain ⟨j, hj, rfl, rfl, hq⟩ := hrel
                    by_cases hlt5 : j < s.size
                    · have e1 := (hq.lw lz).cell (i := tk + j) (by have := HT.out; omega)
                      rw [HCAT.out j hlt5] at e1
                      have hbt := HBT.out
                      have i0 : (0 : Int) ≤ (j : Int) := by omega
                      have i1 : (j : Int) < (s.size : Int) := by omega
                      have i2 : (0 : Int) ≤ (tk : Int) + (j : Int) := by omega
                      have i3 : (tk : Int) + (j : Int) < (tot ss n : Nat) := by have := HT.out; omega
                      have i4 : ((tk : Int) + (j : Int)).toNat = tk + j := by omega
                      go_wp2_with fail
                      go_quiet (fail)
                      clear i2 i3 i4
                      go_wp2_with fail
                      go_roundw
                      case rel => exact ⟨j + 1, by omega, by go_num, by go_num, hq.drewN _⟩
                      case measure => simp [intOf]; omega
                    · obtain rfl : j = s.size := by omega
                      go_wp2_with fail
                      go_roundw
                      case rel => exact ⟨k + 1, by omega, by go_num, by rw [ET.out], hq⟩
                      case measure => simp [intOf]; omega
                · go_wp2_with fail
                  go_ret
                  exact ⟨rfl, hq.below Bz⟩

set_option maxRecDepth 100000 in
set_option maxHeartbeats 1000000 in
theorem law3_nil (N : Int) (w : World) :
    Calls Try.prog 3 #[.int .i64 N, .slice none 0 0] w fun e w' => e = .returned (.bool true) ∧ Below w.heap.size w w' := by
  have HC := Lib.hid (zzb10 N none 0 0 (fun _ => ByteArray.empty) w (by omega) (fun i hi => by omega) (Or.inl ⟨rfl, rfl, rfl⟩))
  have hq := fun W => run_neq_slice_nil_any (P := Try.prog) W 22 9 none 0 0 0 0 Try.underlying22
  go_enter Try.func3, Try.ntmps3
  go_wp2_with fail
  refine HC.out.mono ?_
  rintro e w1 ⟨⟨r, rfl, _⟩, rfl⟩
  clear HC
  cases r
  · go_wp2_with fail
    go_ret
    exact ⟨rfl, Below.refl _ _⟩
  go_wp2_with fail
  refine wp_loop_rounds 1 ?_
  rw [rounds_succ]
  by_cases n1 : N < 1
  · go_wp2_with fail
    go_ret
    exact ⟨rfl, Below.refl _ _⟩
  by_cases n2 : 65536 < N
  · go_wp2_with fail
    go_ret
    exact ⟨rfl, Below.refl _ _⟩
  obtain ⟨M, rfl⟩ : ∃ M : Nat, N = (M : Int) := ⟨N.toNat, by omega⟩
  have hM2 : M ≤ 65536 := by omega
  have n3 : ¬ (M : Int) ≤ 0 := by omega
  clear n1 n2
  go_wp2_with fail
  refine (newA M w hM2).mono ?_
  rintro e w4 ⟨rfl, l4, b4⟩
  go_wp2_with fail
  refine wp_loop_rounds 1 ?_
  rw [rounds_succ]
  go_wp2_with fail
  refine (bytesA _ _ _ _ _ _ _ l4 hM2).mono ?_
  rintro e wz ⟨rfl, qz⟩
  go_wp2_with fail
  refine wp_loop_rounds 1 ?_
  rw [rounds_succ]
  go_wp2_with fail
  go_ret
  exact ⟨rfl, qz.below b4⟩

theorem law3 (N : Int) (a : Option Addr) (n c : Nat) (ss : Nat → ByteArray) (w : World) (hn : n ≤ 9223372036854775807) (hz : ∀ i, i < n → (ss i).size ≤ 9223372036854775807) (h : StrIn w a n c ss) :
    Calls Try.prog 3 #[.int .i64 N, .slice a n c] w fun e w' => e = .returned (.bool true) ∧ Below w.heap.size w w' := by
  rcases h with ⟨rfl, rfl, rfl⟩ | ⟨x, rfl, hx⟩
  · exact law3_nil N w
  · exact law3_some N x n c ss w hn hz hx
end Go.Proofs.Ytbeoamdbkknecaa
