/- The limited writer's state and its methods as contracts. Conditions: what is written stays below the capacity. -/
import Derived.Test.YtbeoamdbkknecaaBase
set_option linter.unusedVariables false
namespace Go.Proofs.Ytbeoamdbkknecaa
open Go.RowKit

/-- A writer at block b over the row g of N bytes; the first k of them, f, have been written. -/
def LW (w : World) (B b g N k : Nat) (f : Nat → Int) : Prop :=
  w.rowIs b 42 2 (fun i => if i = 0 then .slice (some ⟨g, 0, none⟩) N N else .int .i64 k) ∧ w.rowIs g 5 N (fun i => .int .u8 (f i)) ∧ k ≤ N ∧ B ≤ g ∧ B ≤ b
/-- Blocks b and g aside, w' is as w was. -/
structure Only (b g : Nat) (w w' : World) : Prop where
  os : w'.os = w.os
  tape : w'.tape = w.tape
  output : w'.output = w.output
  size : w.heap.size ≤ w'.heap.size
  block : ∀ k, k < w.heap.size → k ≠ b → k ≠ g → w'.heap[k]? = w.heap[k]?
theorem Only.below {b g B : Nat} {a w w' : World} (h : Only b g w w') (hb : Below B a w) (hB : B ≤ w.heap.size) (h1 : B ≤ b) (h2 : B ≤ g) : Below B a w' :=
  ⟨h.os.trans hb.os, h.tape.trans hb.tape, h.output.trans hb.output, Nat.le_trans hb.size h.size, fun k hk => (h.block k (by omega) (by omega) (by omega)).trans (hb.block k hk)⟩

section
variable {w w' : World} {B b g N k : Nat} {f : Nat → Int}
theorem LW.c0 (h : LW w B b g N k f) : w.cell? ⟨b, 0, none⟩ = some (.slice (some ⟨g, 0, none⟩) N N) := h.1.cell (i := 0) (by omega)
theorem LW.c1 (h : LW w B b g N k f) : w.cell? ⟨b, 1, none⟩ = some (.int .i64 k) := h.1.cell (i := 1) (by omega)
theorem LW.f1 (h : LW w B b g N k f) : w.frozen? ⟨b, 1, none⟩ = false := h.1.frozen 1
theorem LW.ne (h : LW w B b g N k f) : b ≠ g := rowIs_ne h.1 h.2.1 (by decide)
theorem LW.cell (h : LW w B b g N k f) {i : Nat} (hi : i < N) : w.cell? ⟨g, i, none⟩ = some (.int .u8 (f i)) := h.2.1.cell hi
theorem Only.drewN {a : World} (h : Only b g a w) (n : Nat) : Only b g a (w.drewN n) := ⟨h.os, h.tape, h.output, h.size, h.block⟩
theorem Only.drew {a : World} (h : Only b g a w) : Only b g a w.drew := ⟨h.os, h.tape, h.output, h.size, h.block⟩
theorem LW.congr {f' : Nat → Int} (h : LW w B b g N k f) (e : ∀ i, i < N → f i = f' i) : LW w B b g N k f' :=
  ⟨h.1, h.2.1.congr (fun i hi => by rw [e i hi]), h.2.2⟩
theorem LW.drewN (h : LW w B b g N k f) (n : Nat) : LW (w.drewN n) B b g N k f := h
theorem LW.drew (h : LW w B b g N k f) : LW w.drew B b g N k f := h
theorem LW.below (h : LW w B b g N k f) (hb : Below w.heap.size w w') : LW w' B b g N k f :=
  ⟨h.1.of_block (hb.block b h.1.lt), h.2.1.of_block (hb.block g h.2.1.lt), h.2.2⟩
theorem LW.only {b' g' : Nat} (h : LW w B b g N k f) (hO : Only b' g' w w') (h1 : b ≠ b') (h2 : b ≠ g') (h3 : g ≠ b') (h4 : g ≠ g') : LW w' B b g N k f :=
  ⟨h.1.of_block (hO.block b h.1.lt h1 h2), h.2.1.of_block (hO.block g h.2.1.lt h3 h4), h.2.2⟩
/-- The row has been written, then the offset. -/
theorem LW.wrote {w1 : World} {k' : Nat} {kI : Int} {f' : Nat → Int} (h : LW w B b g N k f) (hr : w1.rowIs g 5 N (fun i => .int .u8 (f' i))) (hg : w.grownBy w1 (some g)) (hk : k' ≤ N) (hI : kI = k') :
    LW (w1.setCell ⟨b, 1, none⟩ (.int .i64 kI)) B b g N k' f' ∧ Only b g w (w1.setCell ⟨b, 1, none⟩ (.int .i64 kI)) := by
  subst hI
  have hb1 := rowIs_grown h.1 hg h.ne
  refine ⟨⟨(hb1.set 1 (.int .i64 k')).congr (fun j hj => ?_), hr.setOther (a := ⟨b, 1, none⟩) (fun e => h.ne e.symm) _, hk, h.2.2.2⟩, ?_⟩
  · by_cases e : j = 1
    · subst e; simp
    · obtain rfl : j = 0 := by omega
      simp
  · exact ⟨hg.os, hg.tape, hg.output, Nat.le_trans hg.size (by simp [World.setCell]), fun i hi h1 h2 => (Below.heap_setCell w1 _ _ i h1).trans (hg.block i hi (fun e => h2 (by injection e)))⟩
end

/-- Draws alone part w' from w. -/
def Qt (w w' : World) : Prop := ∃ q, w' = w.drewN q
theorem qt (w : World) (q : Nat) : Qt w (w.drewN q) := ⟨q, rfl⟩
theorem Qt.lw {w w' : World} {B b g N k : Nat} {f : Nat → Int} (h : Qt w w') (l : LW w B b g N k f) : LW w' B b g N k f := by
  obtain ⟨q, rfl⟩ := h; exact l.drewN q
theorem Qt.below {w w' a : World} {B : Nat} (h : Qt w w') (l : Below B a w) : Below B a w' := by
  obtain ⟨q, rfl⟩ := h; exact below_drewN l q
theorem Qt.row {w w' : World} {b t n : Nat} {f : Nat → Value} (h : Qt w w') (l : w.rowIs b t n f) : w'.rowIs b t n f := by
  obtain ⟨q, rfl⟩ := h; exact l
theorem Qt.size {w w' : World} (h : Qt w w') : w'.heap.size = w.heap.size := by
  obtain ⟨q, rfl⟩ := h; rfl
theorem Qt.cell {w w' : World} (h : Qt w w') (a : Addr) : w'.cell? a = w.cell? a := by
  obtain ⟨q, rfl⟩ := h; rfl
theorem grown_undrew {w w' : World} {r : Option Nat} (h : w.drew.grownBy w' r) : w.grownBy w' r := ⟨h.os, h.tape, h.output, h.size, h.block⟩
theorem newA (n : Nat) (w : World) (hn : n ≤ 65536) : Calls Try.prog 11 #[.int .i64 n] w fun e w' => e = .returned (.pointer (some ⟨w.heap.size + 1, 0, none⟩)) ∧ LW w' w.heap.size (w.heap.size + 1) w.heap.size n 0 (fun _ => 0) ∧ Below w.heap.size w w' := by
  have hmk := run_make_row' (P := Try.prog) 30 5 (.int .u8 0) 1 Try.underlying30 Try.info5 rfl .i64 .i64 n (by omega) (by omega)
  go_enter Try.func11, Try.ntmps11
  go_wp2
  go_ret
  refine ⟨rfl, ⟨?_, (World.rowIs_made w (.int .u8 0) n 5).alloc _, Nat.zero_le _, Nat.le_refl _, by omega⟩, ((Below.refl _ _).alloc (Nat.le_refl _) _).alloc (by simp) _⟩
  have h := World.rowIs_alloc (w.alloc (.cells (madeCells #[.int .u8 0] n) 5)) #[.slice (some ⟨w.heap.size, 0, none⟩) n n, .int .i64 0] 42 (fun i => if i = 0 then .slice (some ⟨w.heap.size, 0, none⟩) n n else .int .i64 (0 : Nat)) (fun i hi => by
    match i, hi with
    | 0, _ => rfl
    | 1, _ => rfl)
  rw [World.size_alloc] at h
  exact h
theorem newB (n : Nat) (w : World) (hn : n ≤ 65536) : Calls Try.prog 16 #[.int .i64 n] w fun e w' => e = .returned (.pointer (some ⟨w.heap.size + 1, 0, none⟩)) ∧ LW w' w.heap.size (w.heap.size + 1) w.heap.size n 0 (fun _ => 0) ∧ Below w.heap.size w w' := by
  have hmk := run_make_row' (P := Try.prog) 30 5 (.int .u8 0) 1 Try.underlying30 Try.info5 rfl .i64 .i64 n (by omega) (by omega)
  go_enter Try.func16, Try.ntmps16
  go_wp2
  go_ret
  refine ⟨rfl, ⟨?_, (World.rowIs_made w (.int .u8 0) n 5).alloc _, Nat.zero_le _, Nat.le_refl _, by omega⟩, ((Below.refl _ _).alloc (Nat.le_refl _) _).alloc (by simp) _⟩
  have h := World.rowIs_alloc (w.alloc (.cells (madeCells #[.int .u8 0] n) 5)) #[.slice (some ⟨w.heap.size, 0, none⟩) n n, .int .i64 0] 42 (fun i => if i = 0 then .slice (some ⟨w.heap.size, 0, none⟩) n n else .int .i64 (0 : Nat)) (fun i hi => by
    match i, hi with
    | 0, _ => rfl
    | 1, _ => rfl)
  rw [World.size_alloc] at h
  exact h

theorem bytesA (w : World) (B b g N k : Nat) (f : Nat → Int) (h : LW w B b g N k f) (hN : N ≤ 65536) :
    Calls Try.prog 13 #[.pointer (some ⟨b, 0, none⟩)] w fun e w' => e = .returned (.slice (some ⟨g, 0, none⟩) k N) ∧ Qt w w' := by
  have c0 := h.c0
  have c1 := h.c1
  have hk := h.2.2.1
  go_enter Try.func13, Try.ntmps13
  go_wp2
  go_quiet (fail)
  go_wp2
  go_ret
  exact ⟨rfl, qt _ _⟩
theorem bytesB (w : World) (B b g N k : Nat) (f : Nat → Int) (h : LW w B b g N k f) (hN : N ≤ 65536) :
    Calls Try.prog 19 #[.pointer (some ⟨b, 0, none⟩)] w fun e w' => e = .returned (.slice (some ⟨g, 0, none⟩) k N) ∧ Qt w w' := by
  have c0 := h.c0
  have c1 := h.c1
  have hk := h.2.2.1
  go_enter Try.func19, Try.ntmps19
  go_wp2
  go_quiet (fail)
  go_wp2
  go_ret
  exact ⟨rfl, qt _ _⟩

/-- What has been written, one more byte laid behind. -/
def push1 (f : Nat → Int) (k : Nat) (c : Int) (i : Nat) : Int := if i = k then c else f i
/-- .. more bytes laid behind. -/
def pushN (f : Nat → Int) (k m : Nat) (h : Nat → Int) (i : Nat) : Int := if k ≤ i ∧ i < k + m then h (i - k) else f i

theorem writeByte (w : World) (B b g N k : Nat) (f : Nat → Int) (c : Int) (h : LW w B b g N k f) (hN : N ≤ 65536) (hk : k + 1 < N) :
    Calls Try.prog 18 #[.pointer (some ⟨b, 0, none⟩), .int .u8 c] w fun e w' => e = .returned .nilIface ∧ LW w' B b g N (k + 1) (push1 f k c) ∧ Only b g w w' := by
  have c0 := h.c0
  have c1 := h.c1
  have f1 := h.f1
  have hbl := h.1.lt
  have hgl := h.2.1.lt
  have hne := h.ne
  have d := h.cell (i := k) (by omega)
  have fd := h.2.1.frozen k
  have e1 : ((k : Int) + 1 == (N : Int)) = false := by simp; omega
  go_enter Try.func18, Try.ntmps18
  go_wp2
  go_region
  go_wp2
  go_quiet (fail)
  go_wp2
  go_ret
  have R := h.wrote (w1 := w.setCell ⟨g, k, none⟩ (.int .u8 c)) (k' := k + 1) (kI := (k : Int) + 1) (f' := push1 f k c) ((h.2.1.set k _).congr (fun j hj => by unfold push1; by_cases e : j = k <;> simp [e])) (grown_set _ _ _ _) (by omega) (by omega)
  exact ⟨rfl, R.1, R.2.drew.drewN _⟩

theorem writeString (w : World) (B b g N k : Nat) (f : Nat → Int) (s : ByteArray) (h : LW w B b g N k f) (hN : N ≤ 65536) (hk : k + s.size < N) :
    Calls Try.prog 12 #[.pointer (some ⟨b, 0, none⟩), .string s] w fun e w' => e = .returned (.tuple #[.int .i64 s.size, .nilIface]) ∧ LW w' B b g N (k + s.size) (pushN f k s.size (PlainAid.bt s)) ∧ Only b g w w' := by
  have c0 := h.c0
  have c1 := h.c1
  have f1 := h.f1
  have hbl := h.1.lt
  have hgl := h.2.1.lt
  have hne := h.ne
  have e1 : ((k : Int) + (s.size : Int) == (N : Int)) = false := by simp; omega
  have hkN : k ≤ N := by omega
  have hNk : ¬ N = k := by omega
  have HR := Lib.hid (show w.drew.rowIs g 5 N (fun i => .int .u8 (f i)) from h.2.1)
  go_enter Try.func12, Try.ntmps12
  go_wp2
  go_region_law (refine step_copy_str rfl (.tmp 15) (.tmp 16) rfl g k (N - k) (N - k) N _ rfl s rfl (by omega) HR.out (by omega) ?_; intro w1 r1 g1; have R1 := Lib.hid r1; have G1 := Lib.hid g1; have x0 := (World.cell?_of_block (g1.block b hbl (fun e => hne (by injection e)))).trans c0; have x1 := (World.cell?_of_block (a := ⟨b, 1, none⟩) (g1.block b hbl (fun e => hne (by injection e)))).trans c1; have x2 := (World.frozen?_of_block (a := ⟨b, 1, none⟩) (g1.block b hbl (fun e => hne (by injection e)))).trans f1; clear r1 g1)
  all_goals
    go_wp2
    go_quiet (fail)
    go_wp2
    go_ret2
    have R := h.wrote (k' := k + s.size) (kI := (k : Int) + s.size) (f' := pushN f k s.size (PlainAid.bt s)) (R1.out.congr (fun j hj => by unfold pushN; by_cases e : k ≤ j ∧ j < k + s.size <;> simp [e])) (grown_undrew G1.out) (by omega) (by omega)
    exact ⟨rfl, R.1, R.2.drewN _⟩

theorem write (w : World) (B b g N k : Nat) (f : Nat → Int) (sp : Option Addr) (m c : Nat) (hf : Nat → Int) (h : LW w B b g N k f) (hN : N ≤ 65536) (hk : k + m < N) (hsrc : m = 0 ∨ ∃ ad, sp = some ad ∧ ∀ j, j < m → w.cell? (ad.add j) = some (.int .u8 (hf j))) :
    Calls Try.prog 17 #[.pointer (some ⟨b, 0, none⟩), .slice sp m c] w fun e w' => e = .returned (.tuple #[.int .i64 m, .nilIface]) ∧ LW w' B b g N (k + m) (pushN f k m hf) ∧ Only b g w w' := by
  have c0 := h.c0
  have c1 := h.c1
  have f1 := h.f1
  have hbl := h.1.lt
  have hgl := h.2.1.lt
  have hne := h.ne
  have e1 : ((k : Int) + (m : Int) == (N : Int)) = false := by simp; omega
  have hkN : k ≤ N := by omega
  have hNk : ¬ N = k := by omega
  have HS := Lib.hid (show m = 0 ∨ ∃ ad, sp = some ad ∧ ∀ j, j < m → w.drew.cell? (ad.add j) = some (.int .u8 (hf j)) from hsrc)
  clear hsrc
  have HR := Lib.hid (show w.drew.rowIs g 5 N (fun i => .int .u8 (f i)) from h.2.1)
  go_enter Try.func17, Try.ntmps17
  go_wp2
  go_region_law (refine step_copy_slice rfl (.tmp 15) (.tmp 16) rfl g k (N - k) (N - k) N m c _ hf sp rfl rfl (by omega) HR.out (by omega) HS.out ?_; intro w1 r1 g1; have R1 := Lib.hid r1; have G1 := Lib.hid g1; have x0 := (World.cell?_of_block (g1.block b hbl (fun e => hne (by injection e)))).trans c0; have x1 := (World.cell?_of_block (a := ⟨b, 1, none⟩) (g1.block b hbl (fun e => hne (by injection e)))).trans c1; have x2 := (World.frozen?_of_block (a := ⟨b, 1, none⟩) (g1.block b hbl (fun e => hne (by injection e)))).trans f1; clear r1 g1)
  all_goals
    go_wp2
    go_quiet (fail)
    go_wp2
    go_ret2
    have R := h.wrote (k' := k + m) (kI := (k : Int) + m) (f' := pushN f k m hf) (R1.out.congr (fun j hj => by unfold pushN; by_cases e : k ≤ j ∧ j < k + m <;> simp [e])) (grown_undrew G1.out) (by omega) (by omega)
    exact ⟨rfl, R.1, R.2.drewN _⟩
end Go.Proofs.Ytbeoamdbkknecaa
