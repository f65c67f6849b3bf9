/- The environment of the scopes' law: made, pushed on, indexed. Conditions: at most 4096 scopes. -/
import Derived.Test.YteiemfmcoofdoaaSp
set_option linter.unusedVariables false
namespace Go.Proofs.Yteiemfmcoofdoaa
open Go.RowKit

def EnvAt (w : World) (E b : Nat) : Prop := w.cell? ⟨E, 3, none⟩ = some (.pointer (some ⟨b, 0, none⟩))

theorem heap_last (w : World) (o : Obj) (k : Nat) (h : w.heap.size = k) : (w.alloc o).heap[k]? = some o := by subst h; exact heap_alloc_new w o
theorem new_env (f g : Nat → Int) (w : World) : Calls Try.prog 17 #[] w fun e w' => e = .returned (.pointer (some ⟨w.heap.size + 3, 0, none⟩)) ∧ EnvAt w' (w.heap.size + 3) (w.heap.size + 2) ∧ Scp w' (w.heap.size + 4) (w.heap.size + 2) f g 0 (.slice none 0 0) ∧ Below w.heap.size w w' ∧ w'.heap.size = w.heap.size + 4 := by
  go_enter Try.func17, Try.ntmps17
  go_wp2
  go_ret
  refine ⟨rfl, ?_, ⟨?_, World.ownsRow_nil _ _ _ _⟩, ?_, by simp⟩
  · unfold EnvAt; rw [cell_of_row _ _ _ _ _ _ (heap_last _ _ _ (by simp))]; rfl
  · exact (Below.heap_alloc _ _ _ (by simp)).trans (heap_last _ _ _ (by simp))
  · exact ((((Below.refl _ w).alloc (Nat.le_refl _) _).alloc (by simp) _).alloc (by simp; omega) _).alloc (by simp; omega) _

theorem push_env (w : World) (B b E : Nat) (f g : Nat → Int) (n : Nat) (v : Value) (x y : Int) (hxy : f n = x ∧ g n = y) (h : Scp w B b f g n v) (hE : EnvAt w E b) (hlen : n ≤ 4096) (hb : b < B) (hB : B ≤ w.heap.size) :
    Calls Try.prog 18 #[.pointer (some ⟨E, 0, none⟩), .int .i64 x, .int .i64 y, .int .i64 0, .int .i64 0, .int .i64 ((n : Int) - 1)] w fun e w' => e = .returned (.tuple #[]) ∧ (∃ v', Scp w' B b f g (n + 1) v') ∧ But b B w w' := by
  obtain ⟨a, cap, rfl⟩ := h.slice
  have HP := Lib.hid (push_any w B b f g n a cap x y hxy h hlen hb hB)
  have he : w.cell? ⟨E, 3, none⟩ = some (.pointer (some ⟨b, 0, none⟩)) := hE
  clear hxy h hE
  go_enter Try.func18, Try.ntmps18
  go_wp2_with fail
  refine HP.out.mono ?_
  rintro e w1 ⟨rfl, hv, hB⟩
  go_wp2_with fail
  go_end0
  exact ⟨rfl, hv, hB⟩

set_option maxRecDepth 100000 in
theorem index_env (w : World) (B b E : Nat) (f g : Nat → Int) (n k : Nat) (v : Value) (x y : Int) (h : Scp w B b f g n v) (hE : EnvAt w E b) (hlen : n ≤ 4096) (hk : k < n) (hx : f k = x) (hne : ∀ m, k < m → m < n → f m ≠ x) :
    Calls Try.prog 24 #[.pointer (some ⟨E, 0, none⟩), .agg #[.int .i64 x, .int .i64 y]] w fun e w' => e = .returned (.int .i64 (wrap64 (g k + y))) ∧ Below w.heap.size w w' := by
  have HNE := Lib.hid hne
  have HX := Lib.hid hx
  have he : w.cell? ⟨E, 3, none⟩ = some (.pointer (some ⟨b, 0, none⟩)) := hE
  have heb : E < w.heap.size := block_lt_of_cell (a := ⟨E, 3, none⟩) he
  have c0 := h.c0
  have c1 := h.c1
  have hbl := lt_of_heap h.1
  have hso : ∃ r cap, v = .slice (some ⟨r, 0, none⟩) n cap := by
    rcases h.2.2 with ⟨_, h0⟩ | ⟨r, cap, cur, hv, _⟩
    · omega
    · exact ⟨r, cap, hv⟩
  obtain ⟨r, cap, rfl⟩ := hso
  have hrl := (h.2.lt r rfl).2
  have HC := Lib.hid (show ∀ m t, m < n → t < 6 → w.cell? ⟨r, m * 6 + t, none⟩ = (six (f m) (g m) m)[t]? from fun m t hm ht => by rw [h.2.cellAt (m * 6 + t) (by omega), cells6_at f g n m t hm ht])
  have HE := Lib.hid he
  have HC0 := Lib.hid c0
  clear hne hx hE h
  go_enter Try.func24, Try.ntmps24
  go_wp2
  go_quiet (fail)
  go_wp2
  clear c1 he c0
  go_loopw [6] (fun i wr => ∃ m : Nat, k ≤ m ∧ m < n ∧ i = .int .i64 (m : Int) ∧ Below (w.heap.size + 1) (w.alloc (.cells #[.int .i64 x, .int .i64 y] 63)) wr) (fun i _ => (intOf i).toNat)
  case atStart => exact ⟨n - 1, by omega, by omega, by congr 1; omega, ⟨rfl, rfl, rfl, Nat.le_refl _, fun _ _ => rfl⟩⟩
  case round =>
    obtain ⟨m, hkm, hm, rfl, hb⟩ := hrel
    have he : wr.cell? ⟨E, 3, none⟩ = some (.pointer (some ⟨b, 0, none⟩)) := by rw [hb.cell (p := ⟨E, 3, none⟩) (by show E < _; omega)]; exact (((Below.refl w.heap.size w).alloc (Nat.le_refl _) _).cell (p := ⟨E, 3, none⟩) heb).trans HE.out
    have c0 : wr.cell? ⟨b, 0, none⟩ = some (.slice (some ⟨r, 0, none⟩) n cap) := by rw [hb.cell (p := ⟨b, 0, none⟩) (by show b < _; omega)]; exact (((Below.refl w.heap.size w).alloc (Nat.le_refl _) _).cell (p := ⟨b, 0, none⟩) hbl).trans HC0.out
    have b1 : wr.cell? ⟨w.heap.size, 1, none⟩ = some (.int .i64 y) := by rw [hb.cell (p := ⟨w.heap.size, 1, none⟩) (by show w.heap.size < _; omega)]; simp
    have d0 : wr.cell? ⟨r, m * 6, none⟩ = some (.int .i64 (f m)) := by rw [hb.cell (p := ⟨r, m * 6, none⟩) (by show r < _; omega)]; exact (((Below.refl w.heap.size w).alloc (Nat.le_refl _) _).cell (p := ⟨r, m * 6, none⟩) hrl).trans (HC.out m 0 hm (by omega))
    have d1 : wr.cell? ⟨r, m * 6 + 1, none⟩ = some (.int .i64 (g m)) := by rw [hb.cell (p := ⟨r, m * 6 + 1, none⟩) (by show r < _; omega)]; exact (((Below.refl w.heap.size w).alloc (Nat.le_refl _) _).cell (p := ⟨r, m * 6 + 1, none⟩) hrl).trans (HC.out m 1 hm (by omega))
    have d2 : wr.cell? ⟨r, m * 6 + 2, none⟩ = some (.int .i64 (0)) := by rw [hb.cell (p := ⟨r, m * 6 + 2, none⟩) (by show r < _; omega)]; exact (((Below.refl w.heap.size w).alloc (Nat.le_refl _) _).cell (p := ⟨r, m * 6 + 2, none⟩) hrl).trans (HC.out m 2 hm (by omega))
    have d3 : wr.cell? ⟨r, m * 6 + 3, none⟩ = some (.int .i64 (0)) := by rw [hb.cell (p := ⟨r, m * 6 + 3, none⟩) (by show r < _; omega)]; exact (((Below.refl w.heap.size w).alloc (Nat.le_refl _) _).cell (p := ⟨r, m * 6 + 3, none⟩) hrl).trans (HC.out m 3 hm (by omega))
    have d4 : wr.cell? ⟨r, m * 6 + 4, none⟩ = some (.int .i64 ((m : Int) - 1)) := by rw [hb.cell (p := ⟨r, m * 6 + 4, none⟩) (by show r < _; omega)]; exact (((Below.refl w.heap.size w).alloc (Nat.le_refl _) _).cell (p := ⟨r, m * 6 + 4, none⟩) hrl).trans (HC.out m 4 hm (by omega))
    have HLS := Lib.hid (show w.heap.size + 1 ≤ wr.heap.size by have := hb.size; simpa using this)
    have hwl : w.heap.size < wr.heap.size := by have := HLS.out; omega
    have h0 : 0 ≤ (m : Int) := by omega
    by_cases e : m = k
    · subst e
      rw [HX.out] at d0
      go_wp2_with fail
      go_ret
      exact ⟨rfl, ((Below.refl w.heap.size w).alloc (Nat.le_refl _) _).trans ((hb.alloc HLS.out _).mono (by omega))⟩
    · have hfm := HNE.out m (by omega) hm
      go_wp2_with fail
      go_roundw
      case rel => exact ⟨m - 1, by omega, by omega, by congr 1; omega, hb.alloc HLS.out _⟩
      case measure => simp [intOf]; omega

theorem zzindex_env (w : World) (B b E : Nat) (f g : Nat → Int) (n k : Nat) (v : Value) (x y : Int) (h : Scp w B b f g n v) (hE : EnvAt w E b) (hlen : n ≤ 4096) (hk : k < n) (hx : f k = x) (hne : ∀ m, k < m → m < n → f m ≠ x) :
    Calls Try.prog 19 #[.pointer (some ⟨E, 0, none⟩), .int .i64 x, .int .i64 y] w fun e w' => e = .returned (.int .i64 (wrap64 (g k + y))) ∧ Below w.heap.size w w' := by
  have HP := Lib.hid (index_env w B b E f g n k v x y h hE hlen hk hx hne)
  clear hne hx hE h
  go_enter Try.func19, Try.ntmps19
  go_wp2_with fail
  refine HP.out.mono ?_
  rintro e w1 ⟨rfl, hB⟩
  go_wp2_with fail
  go_ret
  exact ⟨rfl, hB⟩
end Go.Proofs.Yteiemfmcoofdoaa
