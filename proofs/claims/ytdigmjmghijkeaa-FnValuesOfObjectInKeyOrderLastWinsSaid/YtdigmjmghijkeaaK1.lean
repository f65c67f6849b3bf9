/- Slices of strings: the guards, sums, copies; zzIn, zzSameStrings, zzSortedHas. Conditions: those in each statement. -/
import Derived.Test.YtdigmjmghijkeaaVal
import Derived.Sort.Walk0
set_option linter.unusedVariables false
namespace Go.Proofs.Ytdigmjmghijkeaa
open Go.RowKit


theorem Try.info9s : (Try.prog.info? 9).map (fun i => (i.zero, i.size, i.bytes)) = some (some (.string ByteArray.empty), 1, 16) := by kernel_rfl
/-- The lengths of the first k strings, summed. -/
def tot (ss : Nat → ByteArray) : Nat → Nat
  | 0 => 0
  | k + 1 => tot ss k + (ss k).size
theorem tot_mono (ss : Nat → ByteArray) (k d : Nat) : tot ss k ≤ tot ss (k + d) := by
  induction d with
  | zero => exact Nat.le_refl _
  | succ d ih => exact Nat.le_trans ih (Nat.le_add_right _ _)
theorem tot_le (ss : Nat → ByteArray) {k n : Nat} (h : k ≤ n) : tot ss k ≤ tot ss n := by
  obtain ⟨d, rfl⟩ := Nat.exists_eq_add_of_le h
  exact tot_mono ss k d
theorem tot_at (ss : Nat → ByteArray) {k n : Nat} (h : k < n) : tot ss k + (ss k).size ≤ tot ss n := tot_le ss (k := k + 1) h
/-- A slice of strings. -/
def StrIn (w : World) (a : Option Addr) (n c : Nat) (ss : Nat → ByteArray) : Prop :=
  (a = none ∧ n = 0 ∧ c = 0) ∨ ∃ x, a = some x ∧ ∀ i, i < n → w.cell? (x.add i) = some (.string (ss i))
def SzOk (ss : Nat → ByteArray) (n : Nat) : Prop := ∀ i, i < n → (ss i).size ≤ 9223372036854775807
theorem StrIn.below {w w' : World} {a : Option Addr} {n c : Nat} {ss : Nat → ByteArray} (h : StrIn w a n c ss) (hb : Below w.heap.size w w') : StrIn w' a n c ss := by
  rcases h with h | ⟨x, rfl, hx⟩
  · exact Or.inl h
  · exact Or.inr ⟨x, rfl, fun i hi => (hb.cell (block_lt_of_cell (hx i hi))).trans (hx i hi)⟩
theorem StrIn.nil (w : World) (ss : Nat → ByteArray) : StrIn w none 0 0 ss := Or.inl ⟨rfl, rfl, rfl⟩
theorem StrIn.congr {w : World} {a : Option Addr} {n c : Nat} {f g : Nat → ByteArray} (h : StrIn w a n c f) (e : ∀ i, i < n → f i = g i) : StrIn w a n c g := by
  rcases h with h | ⟨x, rfl, hx⟩
  · exact Or.inl h
  · exact Or.inr ⟨x, rfl, fun i hi => by rw [← e i hi]; exact hx i hi⟩
/-- A Bool comes back; if it is true, P holds. -/
def BoolIf (P : Prop) (e : Ending) : Prop := ∃ r : Bool, e = .returned (.bool r) ∧ (r = true → P)
theorem BoolIf.no {P : Prop} {e : Ending} (h : e = .returned (.bool false)) : BoolIf P e := ⟨false, h, fun h => by cases h⟩
theorem BoolIf.yes {P : Prop} {e : Ending} (h : e = .returned (.bool true)) (hP : P) : BoolIf P e := ⟨true, h, fun _ => hP⟩

theorem zzb3 (a : Option Addr) (n c : Nat) (ss : Nat → ByteArray) (w : World) (hn : n ≤ 9223372036854775807) (hz : SzOk ss n) (h : StrIn w a n c ss) :
    Calls Try.prog 7 #[.slice a n c] w fun e w' => BoolIf (n + tot ss n ≤ 1048576) e ∧ w = w' := by
  have HZ := Lib.hid hz
  clear hz
  by_cases hl : n ≤ 1048576
  · go_enter Try.func7, Try.ntmps7
    go_wp2
    go_loop [3, 4] (fun z i => ∃ k : Nat, k ≤ n ∧ i = .int .i64 k ∧ z = .int .i64 ((n + tot ss k : Nat) : Int) ∧ n + tot ss k ≤ 1048576) (fun _ i => n - (intOf i).toNat)
    case atStart => exact ⟨0, Nat.zero_le _, rfl, rfl, hl⟩
    case round =>
      obtain ⟨k, hk, rfl, rfl, hb⟩ := hrel
      by_cases hlt : k < n
      · rcases h with ⟨_, h0, _⟩ | ⟨x, rfl, hx⟩
        · omega
        have hc := hx k hlt
        have hs := HZ.out k hlt
        have HX := Lib.hid hx
        clear hx
        have et : tot ss (k + 1) = tot ss k + (ss k).size := rfl
        have ET := Lib.hid et
        clear et
        generalize ss k = s at hc hs ET
        by_cases gs : n + tot ss k + s.size ≤ 1048576
        · go_wp2
          go_round
          case rel => exact ⟨k + 1, by omega, by go_num, by rw [ET.out]; go_num, by rw [ET.out]; omega⟩
          case measure => simp [intOf]; omega
        · go_wp2
          all_goals
            go_ret
            exact ⟨BoolIf.no rfl, rfl⟩
      · obtain rfl : n = k := by omega
        have HB := Lib.hid hb
        clear hb
        go_wp2
        go_ret
        exact ⟨BoolIf.yes rfl HB.out, rfl⟩
  · go_enter Try.func7, Try.ntmps7
    go_wp2
    go_ret
    exact ⟨BoolIf.no rfl, rfl⟩

theorem zzb4 (a : Option Addr) (n c : Nat) (ss : Nat → ByteArray) (w : World) (hn : n ≤ 9223372036854775807) (hz : SzOk ss n) (h : StrIn w a n c ss) :
    Calls Try.prog 12 #[.slice a n c] w fun e w' => BoolIf (n + tot ss n ≤ 1048576) e ∧ w = w' := by
  have HZ := Lib.hid hz
  clear hz
  by_cases hl : n ≤ 1048576
  · go_enter Try.func12, Try.ntmps12
    go_wp2
    go_loop [3, 4] (fun z i => ∃ k : Nat, k ≤ n ∧ i = .int .i64 k ∧ z = .int .i64 ((n + tot ss k : Nat) : Int) ∧ n + tot ss k ≤ 1048576) (fun _ i => n - (intOf i).toNat)
    case atStart => exact ⟨0, Nat.zero_le _, rfl, rfl, hl⟩
    case round =>
      obtain ⟨k, hk, rfl, rfl, hb⟩ := hrel
      by_cases hlt : k < n
      · rcases h with ⟨_, h0, _⟩ | ⟨x, rfl, hx⟩
        · omega
        have hc := hx k hlt
        have hs := HZ.out k hlt
        have HX := Lib.hid hx
        clear hx
        have et : tot ss (k + 1) = tot ss k + (ss k).size := rfl
        have ET := Lib.hid et
        clear et
        generalize ss k = s at hc hs ET
        by_cases gs : n + tot ss k + s.size ≤ 1048576
        · go_wp2
          go_round
          case rel => exact ⟨k + 1, by omega, by go_num, by rw [ET.out]; go_num, by rw [ET.out]; omega⟩
          case measure => simp [intOf]; omega
        · go_wp2
          all_goals
            go_ret
            exact ⟨BoolIf.no rfl, rfl⟩
      · obtain rfl : n = k := by omega
        have HB := Lib.hid hb
        clear hb
        go_wp2
        go_ret
        exact ⟨BoolIf.yes rfl HB.out, rfl⟩
  · go_enter Try.func12, Try.ntmps12
    go_wp2
    go_ret
    exact ⟨BoolIf.no rfl, rfl⟩

theorem zzb5 (a : Option Addr) (n c : Nat) (ss : Nat → ByteArray) (av : Option Addr) (nv cv : Nat) (w : World) (hn : n ≤ 9223372036854775807) (hz : SzOk ss n) (h : StrIn w a n c ss) (hnv : nv ≤ 9223372036854775807) :
    Calls Try.prog 15 #[.slice a n c, .slice av nv cv] w fun e w' => BoolIf (n + tot ss n + nv ≤ 1048576) e ∧ w = w' := by
  have HZ := Lib.hid hz
  clear hz
  by_cases hl : n ≤ 1048576
  · go_enter Try.func15, Try.ntmps15
    go_wp2
    go_loop [5, 6] (fun z i => ∃ k : Nat, k ≤ n ∧ i = .int .i64 k ∧ z = .int .i64 ((n + tot ss k : Nat) : Int) ∧ n + tot ss k ≤ 1048576) (fun _ i => n - (intOf i).toNat)
    case atStart => exact ⟨0, Nat.zero_le _, rfl, rfl, hl⟩
    case round =>
      obtain ⟨k, hk, rfl, rfl, hb⟩ := hrel
      by_cases hlt : k < n
      · rcases h with ⟨_, h0, _⟩ | ⟨x, rfl, hx⟩
        · omega
        have hc := hx k hlt
        have hs := HZ.out k hlt
        have HX := Lib.hid hx
        clear hx
        have et : tot ss (k + 1) = tot ss k + (ss k).size := rfl
        have ET := Lib.hid et
        clear et
        generalize ss k = s at hc hs ET
        by_cases gs : n + tot ss k + s.size ≤ 1048576
        · go_wp2
          go_round
          case rel => exact ⟨k + 1, by omega, by go_num, by rw [ET.out]; go_num, by rw [ET.out]; omega⟩
          case measure => simp [intOf]; omega
        · go_wp2
          all_goals
            go_ret
            exact ⟨BoolIf.no rfl, rfl⟩
      · obtain rfl : n = k := by omega
        by_cases gv : n + tot ss n + nv ≤ 1048576
        · go_wp2
          go_ret
          exact ⟨BoolIf.yes rfl (by first | exact gv | trivial), rfl⟩
        · go_wp2
          all_goals
            go_ret
            exact ⟨BoolIf.no rfl, rfl⟩
  · go_enter Try.func15, Try.ntmps15
    go_wp2
    go_ret
    exact ⟨BoolIf.no rfl, rfl⟩

/-- zzStrBytes' answer. -/
def SumOr (n : Nat) (ss : Nat → ByteArray) (e : Ending) : Prop := ∃ t : Nat, e = .returned (.int .i64 t) ∧ t ≤ 4194304 ∧ (t ≤ 1048576 → 16 * n + tot ss n ≤ 1048576)
theorem strBytes (a : Option Addr) (n c : Nat) (ss : Nat → ByteArray) (w : World) (hn : n + tot ss n ≤ 1048576) (h : StrIn w a n c ss) :
    Calls Try.prog 8 #[.slice a n c] w fun e w' => SumOr n ss e ∧ w = w' := by
  go_enter Try.func8, Try.ntmps8
  go_wp2
  go_loop [3, 4] (fun z i => ∃ k : Nat, k ≤ n ∧ i = .int .i64 k ∧ z = .int .i64 ((16 * k + tot ss k : Nat) : Int) ∧ 16 * k + tot ss k ≤ 1048576) (fun _ i => n - (intOf i).toNat)
  case atStart => exact ⟨0, Nat.zero_le _, rfl, rfl, by simp [tot]⟩
  case round =>
    obtain ⟨k, hk, rfl, rfl, hb⟩ := hrel
    by_cases hlt : k < n
    · rcases h with ⟨_, h0, _⟩ | ⟨x, rfl, hx⟩
      · omega
      have hc := hx k hlt
      have hs := tot_at ss hlt
      have HX := Lib.hid hx
      clear hx
      have et : tot ss (k + 1) = tot ss k + (ss k).size := rfl
      have ET := Lib.hid et
      clear et
      generalize ss k = s at hc hs ET
      by_cases gs : 16 * (k + 1) + (tot ss k + s.size) ≤ 1048576
      · go_wp2
        go_round
        case rel => exact ⟨k + 1, by omega, by go_num, by rw [ET.out]; go_num, by rw [ET.out]; omega⟩
        case measure => simp [intOf]; omega
      · go_wp2
        go_ret
        exact ⟨⟨16 * (k + 1) + (tot ss k + s.size), by go_num, by omega, by omega⟩, rfl⟩
    · obtain rfl : n = k := by omega
      have HB := Lib.hid hb
      clear hb
      go_wp2
      go_ret
      exact ⟨⟨16 * n + tot ss n, rfl, by have := HB.out; omega, fun _ => HB.out⟩, rfl⟩
/-- A copy. -/
def ClonedS (w w' : World) (n : Nat) (ss : Nat → ByteArray) (e : Ending) : Prop := ∃ a, e = .returned (.slice a n n) ∧ StrIn w' a n n ss
theorem sclone_nil (w : World) : Calls Try.prog 9 #[.slice none 0 0] w fun e w' => e = .returned (.slice none 0 0) ∧ w = w' := by
  have hq := fun W => Lib.run_eql_slice_nil (P := Try.prog) W 22 9 none 0 0 0 0 Try.underlying22
  go_enter Try.func9, Try.ntmps9
  go_wp2
  go_ret
  exact ⟨rfl, rfl⟩
set_option maxRecDepth 100000 in
theorem sclone_some (x : Addr) (n c : Nat) (f : Nat → ByteArray) (w : World) (hn : n ≤ 1048576) (hx : ∀ j, j < n → w.cell? (x.add j) = some (.string (f j))) :
    Calls Try.prog 9 #[.slice (some x) n c] w fun e w' => e = .returned (.slice (some ⟨w.heap.size, 0, none⟩) n n) ∧ w'.rowIs w.heap.size 9 n (fun j => .string (f j)) ∧ Below w.heap.size w w' := by
  have hq := fun W => Lib.run_eql_slice_nil (P := Try.prog) W 22 9 (some x) n c 0 0 Try.underlying22
  have hmk := run_make_row' (P := Try.prog) 22 9 (.string ByteArray.empty) 16 Try.underlying22 Try.info9s rfl .i64 .i64 n (by omega) (by omega)
  have HX := Lib.hid hx
  clear hx
  go_enter Try.func9, Try.ntmps9
  go_wp2_with fail
  clear hq hmk
  go_loopw [4] (fun j wr => ∃ k : Nat, k ≤ n ∧ j = .int .i64 k ∧ wr.rowIs w.heap.size 9 n (fun j => if j < k then .string (f j) else .string ByteArray.empty) ∧ Below w.heap.size w wr) (fun j _ => n - (intOf j).toNat)
  case atStart => exact ⟨0, Nat.zero_le _, rfl, (World.rowIs_made w _ n 9).congr (fun j _ => by simp), (Below.refl _ _).alloc (Nat.le_refl _) _⟩
  case round =>
    obtain ⟨k, hk, rfl, hrow, hb⟩ := hrel
    by_cases hlt : k < n
    · have hxl : (x.add k).block < w.heap.size := block_lt_of_cell (HX.out k hlt)
      have hc : wr.cell? (x.add k) = some (.string (f k)) := (hb.cell hxl).trans (HX.out k hlt)
      have hd := hrow.cell hlt
      have hf := hrow.frozen k
      rw [if_neg (by omega)] at hd
      go_wp2_with fail
      go_roundw
      case rel =>
        refine ⟨k + 1, by omega, by go_num, (hrow.set k (.string (f k))).congr (fun j hj => ?_), hb.setCell (p := ⟨w.heap.size, k, none⟩) (Nat.le_refl _) _⟩
        by_cases e : j = k
        · subst e; simp
        · rw [if_neg e, upto e]
      case measure => simp [intOf]; omega
    · obtain rfl : n = k := by omega
      go_wp2_with fail
      go_ret
      exact ⟨rfl, hrow.congr (fun j hj => by rw [if_pos hj]), hb⟩
theorem sclone_any (a : Option Addr) (n c : Nat) (f : Nat → ByteArray) (w : World) (hn : n ≤ 1048576) (h : StrIn w a n c f) :
    Calls Try.prog 9 #[.slice a n c] w fun e w' => ClonedS w w' n f e ∧ Below w.heap.size w w' := by
  rcases h with ⟨rfl, rfl, rfl⟩ | ⟨x, rfl, hx⟩
  · refine (sclone_nil w).mono ?_
    rintro e w' ⟨rfl, rfl⟩
    exact ⟨⟨none, rfl, StrIn.nil _ _⟩, Below.refl _ _⟩
  · refine (sclone_some x n c f w hn hx).mono ?_
    rintro e w' ⟨rfl, h1, h2⟩
    exact ⟨⟨_, rfl, Or.inr ⟨_, rfl, fun j hj => by rw [Go.WideShapes.add_plain, Nat.zero_add]; exact h1.cell hj⟩⟩, h2⟩

/-- zzIn of a string that is there. -/
theorem zzIn_yes (a : Option Addr) (n c : Nat) (f : Nat → ByteArray) (x : ByteArray) (w : World) (hn : n ≤ 1048576) (h : StrIn w a n c f) (m : Nat) (hm : m < n) (e : f m = x) :
    Calls Try.prog 14 #[.slice a n c, .string x] w fun e w' => e = .returned (.bool true) ∧ w = w' := by
  rcases h with ⟨_, h0, _⟩ | ⟨ax, rfl, hx⟩
  · omega
  have HX := Lib.hid hx
  have HM := Lib.hid e
  clear hx e
  go_enter Try.func14, Try.ntmps14
  go_wp2
  go_loop [5] (fun i => ∃ k : Nat, k ≤ m ∧ i = .int .i64 k) (fun i => n - (intOf i).toNat)
  case atStart => exact ⟨0, Nat.zero_le _, rfl⟩
  case round =>
    obtain ⟨k, hk, rfl⟩ := hrel
    have hlt : k < n := by omega
    have hc := HX.out k hlt
    by_cases hb : f k = x
    · have hq : ((f k).toList == x.toList) = true := by rw [hb]; simp
      clear hb
      go_wp2
      go_ret
      exact ⟨rfl, rfl⟩
    · have hne : k ≠ m := fun e => hb (by subst e; exact HM.out)
      have hq : ((f k).toList == x.toList) = false := by
        rw [ByteArray.toList_eq, ByteArray.toList_eq]
        simpa using fun e => hb (ByteArray.ext (Array.ext' (by simpa using e)))
      clear hb
      go_wp2
      go_round
      case rel => exact ⟨k + 1, by omega, by go_num⟩
      case measure => simp [intOf]; omega

/-- zzSameStrings of two slices that read alike. -/
theorem same_yes (a a2 : Option Addr) (n c c2 : Nat) (f : Nat → ByteArray) (w : World) (hn : n ≤ 1048576) (h : StrIn w a n c f) (h2 : StrIn w a2 n c2 f) :
    Calls Try.prog 11 #[.slice a n c, .slice a2 n c2] w fun e w' => e = .returned (.bool true) ∧ Below w.heap.size w w' := by
  go_enter Try.func11, Try.ntmps11
  go_wp2_with fail
  go_loopw [5] (fun i wr => ∃ k : Nat, k ≤ n ∧ i = .int .i64 k ∧ Below w.heap.size w wr) (fun i _ => n - (intOf i).toNat)
  case atStart => exact ⟨0, Nat.zero_le _, rfl, Below.refl _ _⟩
  case round =>
    obtain ⟨k, hk, rfl, hb⟩ := hrel
    by_cases hlt : k < n
    · rcases h.below hb with ⟨_, h0, _⟩ | ⟨x, rfl, hx⟩
      · omega
      rcases h2.below hb with ⟨_, h0, _⟩ | ⟨x2, rfl, hx2⟩
      · omega
      have hc := hx k hlt
      have hc2 := hx2 k hlt
      clear hx hx2
      go_wp2_with fail
      go_quiet (fail)
      go_wp2_with fail
      go_roundw
      case rel => exact ⟨k + 1, by omega, by go_num, ⟨hb.os, hb.tape, hb.output, hb.size, hb.block⟩⟩
      case measure => simp [intOf]; omega
    · obtain rfl : n = k := by omega
      go_wp2_with fail
      go_ret
      exact ⟨rfl, hb⟩

/-- The strings stand in strictly rising order. -/
def Rising (n : Nat) (f : Nat → ByteArray) : Prop := ∀ i j, i < j → j < n → (f i).data.toList < (f j).data.toList
theorem less_is (x y : ByteArray) : Op.bytesLess x.toList y.toList = decide (x.data.toList < y.data.toList) := by
  rw [ByteArray.toList_eq, ByteArray.toList_eq]; exact bytesLess_eq _ _
/-- zzSortedHas of a string that is there. -/
theorem has_yes (a : Option Addr) (n c : Nat) (f : Nat → ByteArray) (x : ByteArray) (w : World) (hn : n ≤ 1048576) (h : StrIn w a n c f) (hr : Rising n f) (m : Nat) (hm : m < n) (e : f m = x) :
    Calls Try.prog 13 #[.slice a n c, .string x] w fun e w' => e = .returned (.bool true) ∧ w = w' := by
  rcases h with ⟨_, h0, _⟩ | ⟨ax, rfl, hx⟩
  · omega
  have HX := Lib.hid hx
  have HM := Lib.hid e
  have HR := Lib.hid hr
  clear hx e hr
  go_enter Try.func13, Try.ntmps13
  go_wp2
  go_loop [5, 6] (fun l h => ∃ lo hi : Nat, lo ≤ m ∧ m ≤ hi ∧ hi ≤ n ∧ l = .int .i64 lo ∧ h = .int .i64 hi) (fun l h => (intOf h).toNat - (intOf l).toNat)
  case atStart => exact ⟨0, n, by omega, by omega, by omega, rfl, rfl⟩
  case round =>
    obtain ⟨lo, hi, h1, h2, h3, rfl, rfl⟩ := hrel
    by_cases hlt : lo < hi
    · obtain ⟨q, hq⟩ : ∃ q : Nat, q = lo + (hi - lo) / 2 := ⟨_, rfl⟩
      have hq1 : lo ≤ q := by omega
      have hq2 : q < hi := by omega
      have hqi : (lo : Int) + ((hi : Int) - lo) / 2 = (q : Int) := by omega
      have hd : (0 : Int) ≤ (hi : Int) - lo := by omega
      clear hq
      have hqn : q < n := by omega
      have hc := HX.out q hqn
      by_cases hb : (f q).data.toList < x.data.toList
      · have hl : Op.bytesLess (f q).toList x.toList = true := by rw [less_is]; simpa using hb
        have hqm : q < m := by
          rcases Nat.lt_or_ge q m with h | h
          · exact h
          · exfalso
            rcases Nat.lt_or_ge m q with h' | h'
            · have := HR.out m q h' hqn
              rw [HM.out] at this
              exact List.lt_asymm this hb
            · obtain rfl : q = m := by omega
              rw [HM.out] at hb
              exact List.lt_irrefl _ hb
        clear hb
        go_wp2
        go_round
        case rel => exact ⟨q + 1, hi, by omega, by omega, by omega, by go_num, rfl⟩
        case measure => simp [intOf]; omega
      · have hl : Op.bytesLess (f q).toList x.toList = false := by rw [less_is]; simpa using hb
        have hqm : m ≤ q := by
          rcases Nat.lt_or_ge q m with h | h
          · exfalso
            have := HR.out q m h hm
            rw [HM.out] at this
            exact hb this
          · exact h
        clear hb
        go_wp2
        go_round
        case rel => exact ⟨lo, q, by omega, by omega, by omega, rfl, rfl⟩
        case measure => simp [intOf]; omega
    · obtain rfl : m = lo := by omega
      have hc := HX.out m hm
      have hq : ((f m).toList == x.toList) = true := by rw [HM.out]; simp
      go_wp2
      go_ret
      exact ⟨rfl, rfl⟩
end Go.Proofs.Ytdigmjmghijkeaa
