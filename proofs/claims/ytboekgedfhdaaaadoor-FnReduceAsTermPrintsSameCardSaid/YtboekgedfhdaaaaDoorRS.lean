/- Slices of strings that came in: sums, guards, copies, joins. Conditions: those in each statement. -/
import Derived.Test.YtboekgedfhdaaaaDoorBin
import Derived.Deep.OwnRows
import Derived.OwnWalk
import Derived.Lib.AppendStr
import Derived.Lib.BufferRead
import Derived.Laws.Cover4
import Derived.Lib.SliceRun
import Derived.WalkSpells
import Derived.Handy
set_option linter.unusedVariables false
namespace Go.Proofs.YtboekgedfhdaaaaDoor
open Go.Shelf Go.RowKit


theorem Tryd.infoStr9 : (Tryd.prog.info? 9).map (fun i => (i.zero, i.size, i.bytes)) = some (some (.string ByteArray.empty), 1, 16) := by kernel_rfl
/-- The lengths of the first k strings, summed. -/
def tot (ss : Nat → ByteArray) : Nat → Nat
  | 0 => 0
  | k + 1 => tot ss k + (ss k).size
theorem tot_mono (ss : Nat → ByteArray) (k d : Nat) : tot ss k ≤ tot ss (k + d) := by
  induction d with
  | zero => exact Nat.le_refl _
  | succ d ih => exact Nat.le_trans ih (Nat.le_add_right _ _)
theorem tot_le (ss : Nat → ByteArray) {k n : Nat} (h : k ≤ n) : tot ss k ≤ tot ss n := by
  obtain ⟨d, rfl⟩ := Nat.exists_eq_add_of_le h
  exact tot_mono ss k d
theorem tot_at (ss : Nat → ByteArray) {k n : Nat} (h : k < n) : tot ss k + (ss k).size ≤ tot ss n := tot_le ss (k := k + 1) h
/-- A slice of strings. -/
def StrIn (w : World) (a : Option Addr) (n c : Nat) (ss : Nat → ByteArray) : Prop :=
  (a = none ∧ n = 0 ∧ c = 0) ∨ ∃ x, a = some x ∧ ∀ i, i < n → w.cell? (x.add i) = some (.string (ss i))
def SzOk (ss : Nat → ByteArray) (n : Nat) : Prop := ∀ i, i < n → (ss i).size ≤ 9223372036854775807
theorem StrIn.below {w w' : World} {a : Option Addr} {n c : Nat} {ss : Nat → ByteArray} (h : StrIn w a n c ss) (hb : Below w.heap.size w w') : StrIn w' a n c ss := by
  rcases h with h | ⟨x, rfl, hx⟩
  · exact Or.inl h
  · exact Or.inr ⟨x, rfl, fun i hi => (hb.cell (block_lt_of_cell (hx i hi))).trans (hx i hi)⟩
theorem StrIn.nil (w : World) (ss : Nat → ByteArray) : StrIn w none 0 0 ss := Or.inl ⟨rfl, rfl, rfl⟩
/-- A Bool comes back; if it is true, P holds. -/
def BoolIf (P : Prop) (e : Ending) : Prop := ∃ r : Bool, e = .returned (.bool r) ∧ (r = true → P)
theorem BoolIf.no {P : Prop} {e : Ending} (h : e = .returned (.bool false)) : BoolIf P e := ⟨false, h, fun h => by cases h⟩
theorem BoolIf.yes {P : Prop} {e : Ending} (h : e = .returned (.bool true)) (hP : P) : BoolIf P e := ⟨true, h, fun _ => hP⟩
/-- A Bool comes back; if it is false, P holds. -/
def BoolUn (P : Prop) (e : Ending) : Prop := ∃ r : Bool, e = .returned (.bool r) ∧ (r = false → P)
theorem BoolUn.yes {P : Prop} {e : Ending} (h : e = .returned (.bool true)) : BoolUn P e := ⟨true, h, fun h => by cases h⟩
theorem BoolUn.no {P : Prop} {e : Ending} (h : e = .returned (.bool false)) (hP : P) : BoolUn P e := ⟨false, h, fun _ => hP⟩

/-- badLists. -/
theorem bad_any (ap : Option Addr) (np cp : Nat) (aq : Option Addr) (nq cq : Nat) (ar : Option Addr) (nr cr : Nat) (ay : Option Addr) (ny cy : Nat) (az : Option Addr) (nz cz : Nat) (w : World) (mp : np ≤ 1048576) (mq : nq ≤ 1048576) (mr : nr ≤ 1048576) (my : ny ≤ 1048576) (mz : nz ≤ 1048576) :
    Calls Tryd.prog 11 #[.slice ap np cp, .slice aq nq cq, .slice ar nr cr, .slice ay ny cy, .slice az nz cz] w fun e w' => BoolUn (np ≤ 4096 ∧ nq ≤ 4096 ∧ nr ≤ 4096 ∧ ny ≤ 4096 ∧ nz ≤ 4096) e ∧ w = w' := by
  go_enter Tryd.func11, Tryd.ntmps11
  go_wp2
  all_goals
    go_ret
    refine ⟨⟨_, rfl, fun h => ?_⟩, rfl⟩
    first | (simp at h; done) | (simp at h; omega)

/-- listBytes. -/
theorem listBytes_any (a : Option Addr) (n c : Nat) (ss : Nat → ByteArray) (w : World) (hn : n + tot ss n ≤ 1048576) (h : StrIn w a n c ss) :
    Calls Tryd.prog 30 #[.slice a n c] w fun e w' => e = .returned (.int .i64 ((16 * n + tot ss n : Nat) : Int)) ∧ w = w' := by
  go_enter Tryd.func30, Tryd.ntmps30
  go_wp2
  go_loop [3, 4] (fun z i => ∃ k : Nat, k ≤ n ∧ i = .int .i64 k ∧ z = .int .i64 ((16 * k + tot ss k : Nat) : Int)) (fun _ i => n - (intOf i).toNat)
  case atStart => exact ⟨0, Nat.zero_le _, rfl, rfl⟩
  case round =>
    obtain ⟨k, hk, rfl, rfl⟩ := hrel
    by_cases hlt : k < n
    · rcases h with ⟨_, h0, _⟩ | ⟨x, rfl, hx⟩
      · omega
      have hc := hx k hlt
      have hs := tot_at ss hlt
      have HX := Lib.hid hx
      clear hx
      have et : tot ss (k + 1) = tot ss k + (ss k).size := rfl
      have ET := Lib.hid et
      clear et
      generalize ss k = s at hc hs ET
      go_wp2
      go_round
      case rel => exact ⟨k + 1, by omega, by go_num, by rw [ET.out]; go_num⟩
      case measure => simp [intOf]; omega
    · obtain rfl : k = n := by omega
      go_wp2
      go_ret
      exact ⟨rfl, rfl⟩
theorem ret_int {k : IntKind} {a b : Int} (h : a = b) : Ending.returned (.int k a) = .returned (.int k b) := by rw [h]
/-- totalBytes. -/
def totB (np nq nr ny nz : Nat) (fp fq fr fy fz : Nat → ByteArray) : Nat := (16 * np + tot fp np) + (16 * nq + tot fq nq) + (16 * nr + tot fr nr) + (16 * ny + tot fy ny) + (16 * nz + tot fz nz)
theorem totalBytes_any (ap : Option Addr) (np cp : Nat) (fp : Nat → ByteArray) (aq : Option Addr) (nq cq : Nat) (fq : Nat → ByteArray) (ar : Option Addr) (nr cr : Nat) (fr : Nat → ByteArray) (ay : Option Addr) (ny cy : Nat) (fy : Nat → ByteArray) (az : Option Addr) (nz cz : Nat) (fz : Nat → ByteArray) (w : World) (mp : np + tot fp np ≤ 1048576) (hp : StrIn w ap np cp fp) (mq : nq + tot fq nq ≤ 1048576) (hq : StrIn w aq nq cq fq) (mr : nr + tot fr nr ≤ 1048576) (hr : StrIn w ar nr cr fr) (my : ny + tot fy ny ≤ 1048576) (hy : StrIn w ay ny cy fy) (mz : nz + tot fz nz ≤ 1048576) (hz : StrIn w az nz cz fz) :
    Calls Tryd.prog 12 #[.slice ap np cp, .slice aq nq cq, .slice ar nr cr, .slice ay ny cy, .slice az nz cz] w fun e w' => e = .returned (.int .i64 ((totB np nq nr ny nz fp fq fr fy fz : Nat) : Int)) ∧ w = w' := by
  go_enter Tryd.func12, Tryd.ntmps12
  go_wp2_with fail
  refine (listBytes_any ap np cp fp _ mp hp).mono ?_
  rintro e w1 ⟨rfl, rfl⟩
  go_wp2_with fail
  refine (listBytes_any aq nq cq fq _ mq hq).mono ?_
  rintro e w1 ⟨rfl, rfl⟩
  go_wp2_with fail
  refine (listBytes_any ar nr cr fr _ mr hr).mono ?_
  rintro e w1 ⟨rfl, rfl⟩
  go_wp2_with fail
  refine (listBytes_any ay ny cy fy _ my hy).mono ?_
  rintro e w1 ⟨rfl, rfl⟩
  go_wp2_with fail
  refine (listBytes_any az nz cz fz _ mz hz).mono ?_
  rintro e w1 ⟨rfl, rfl⟩
  go_wp2_with fail
  go_ret
  exact ⟨ret_int (by unfold totB; omega), rfl⟩

/-- A copy. -/
def ClonedS (w w' : World) (n : Nat) (ss : Nat → ByteArray) (e : Ending) : Prop := ∃ a, e = .returned (.slice a n n) ∧ StrIn w' a n n ss
theorem clone_nil (w : World) : Calls Tryd.prog 13 #[.slice none 0 0] w fun e w' => e = .returned (.slice none 0 0) ∧ w = w' := by
  have hq := fun W => Lib.run_eql_slice_nil (P := Tryd.prog) W 22 9 none 0 0 0 0 Tryd.underlying22
  go_enter Tryd.func13, Tryd.ntmps13
  go_wp2
  go_ret
  exact ⟨rfl, rfl⟩
theorem upto {α : Type} {P Q : α} {k j : Nat} (e : j ≠ k) : (if j < k then P else Q) = (if j < k + 1 then P else Q) := by
  by_cases h : j < k
  · rw [if_pos h, if_pos (by omega)]
  · rw [if_neg h, if_neg (by omega)]
set_option maxRecDepth 100000 in
theorem clone_some (x : Addr) (n c : Nat) (f : Nat → ByteArray) (w : World) (hn : n ≤ 1048576) (hx : ∀ j, j < n → w.cell? (x.add j) = some (.string (f j))) :
    Calls Tryd.prog 13 #[.slice (some x) n c] w fun e w' => e = .returned (.slice (some ⟨w.heap.size, 0, none⟩) n n) ∧ w'.rowIs w.heap.size 9 n (fun j => .string (f j)) ∧ Below w.heap.size w w' := by
  have hq := fun W => Lib.run_eql_slice_nil (P := Tryd.prog) W 22 9 (some x) n c 0 0 Tryd.underlying22
  have hmk := run_make_row' (P := Tryd.prog) 22 9 (.string ByteArray.empty) 16 Tryd.underlying22 Tryd.infoStr9 rfl .i64 .i64 n (by omega) (by omega)
  have HX := Lib.hid hx
  clear hx
  go_enter Tryd.func13, Tryd.ntmps13
  go_wp2_with fail
  clear hq hmk
  go_loopw [4] (fun j wr => ∃ k : Nat, k ≤ n ∧ j = .int .i64 k ∧ wr.rowIs w.heap.size 9 n (fun j => if j < k then .string (f j) else .string ByteArray.empty) ∧ Below w.heap.size w wr) (fun j _ => n - (intOf j).toNat)
  case atStart => exact ⟨0, Nat.zero_le _, rfl, (World.rowIs_made w _ n 9).congr (fun j _ => by simp), (Below.refl _ _).alloc (Nat.le_refl _) _⟩
  case round =>
    obtain ⟨k, hk, rfl, hrow, hb⟩ := hrel
    by_cases hlt : k < n
    · have hxl : (x.add k).block < w.heap.size := block_lt_of_cell (HX.out k hlt)
      have hc : wr.cell? (x.add k) = some (.string (f k)) := (hb.cell hxl).trans (HX.out k hlt)
      have hd := hrow.cell hlt
      have hf := hrow.frozen k
      rw [if_neg (by omega)] at hd
      go_wp2_with fail
      go_roundw
      case rel =>
        refine ⟨k + 1, by omega, by go_num, (hrow.set k (.string (f k))).congr (fun j hj => ?_), hb.setCell (p := ⟨w.heap.size, k, none⟩) (Nat.le_refl _) _⟩
        by_cases e : j = k
        · subst e; simp
        · rw [if_neg e, upto e]
      case measure => simp [intOf]; omega
    · obtain rfl : n = k := by omega
      go_wp2_with fail
      go_ret
      exact ⟨rfl, hrow.congr (fun j hj => by rw [if_pos hj]), hb⟩
theorem clone_any (a : Option Addr) (n c : Nat) (f : Nat → ByteArray) (w : World) (hn : n ≤ 1048576) (h : StrIn w a n c f) :
    Calls Tryd.prog 13 #[.slice a n c] w fun e w' => ClonedS w w' n f e ∧ Below w.heap.size w w' := by
  rcases h with ⟨rfl, rfl, rfl⟩ | ⟨x, rfl, hx⟩
  · refine (clone_nil w).mono ?_
    rintro e w' ⟨rfl, rfl⟩
    exact ⟨⟨none, rfl, StrIn.nil _ _⟩, Below.refl _ _⟩
  · refine (clone_some x n c f w hn hx).mono ?_
    rintro e w' ⟨rfl, h1, h2⟩
    exact ⟨⟨_, rfl, Or.inr ⟨_, rfl, fun j hj => by rw [Go.WideShapes.add_plain, Nat.zero_add]; exact h1.cell hj⟩⟩, h2⟩

/-- The first n strings, joined. -/
def joinT (f : Nat → ByteArray) (sep : List UInt8) : Nat → List UInt8
  | 0 => []
  | 1 => (f 0).data.toList
  | k + 2 => joinT f sep (k + 1) ++ sep ++ (f (k + 1)).data.toList
theorem joinT_len (f : Nat → ByteArray) (sep : List UInt8) : ∀ n, (joinT f sep n).length ≤ sep.length * n + tot f n
  | 0 => by simp [joinT]
  | 1 => by simp [joinT, tot]
  | k + 2 => by
    have h := joinT_len f sep (k + 1)
    have := Lib.size_eq (f (k + 1))
    have e : tot f (k + 2) = tot f (k + 1) + (f (k + 1)).size := rfl
    have e2 : sep.length * (k + 2) = sep.length * (k + 1) + sep.length := rfl
    simp only [joinT, List.length_append]
    omega
theorem joinT_next (f : Nat → ByteArray) (sep : List UInt8) (k : Nat) : joinT f sep (k + 1) = joinT f sep k ++ (if k = 0 then [] else sep) ++ (f k).data.toList := by
  cases k with
  | zero => simp [joinT]
  | succ k => simp [joinT]
end Go.Proofs.YtboekgedfhdaaaaDoor
