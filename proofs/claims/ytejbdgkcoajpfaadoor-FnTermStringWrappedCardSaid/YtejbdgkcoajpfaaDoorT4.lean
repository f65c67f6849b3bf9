/- zzSuffixes: the list of suffixes and the text. Condition: at most 2^16 codes, a base text of at most 2^17 bytes. -/
import Derived.Test.YtejbdgkcoajpfaaDoorT3
import Derived.Lib.BufferRead
import Derived.Outline
import Derived.Stop.Walk2
import Derived.StillTactics
set_option linter.unusedVariables false
namespace Go.Proofs.YtejbdgkcoajpfaaDoor
open Go.Shelf Go.RowKit

theorem Tryd.infoSP : (Tryd.prog.info? 96).map (fun i => (i.zero, i.size, i.bytes)) = some (some (.pointer none), 1, 8) := by kernel_rfl
/-- A block that is no row of bytes and no list of suffixes. -/
def Far (w : World) (a : Nat) : Prop := a < w.heap.size ∧ (w.shape? a).map Prod.fst ≠ some 5 ∧ (w.shape? a).map Prod.fst ≠ some 96
/-- A suffix whose blocks are far. -/
def SufF (w : World) (c a : Nat) : Prop := SufAt w c a ∧ Far w a ∧ ∀ x, w.cell? ⟨a, 0, none⟩ = some (.pointer (some ⟨x, 0, none⟩)) → Far w x
def NearRow (w : World) (row : Option Nat) : Prop := ∀ r, row = some r → (w.shape? r).map Prod.fst = some 5 ∨ (w.shape? r).map Prod.fst = some 96
theorem Far.block {w w' : World} {a : Nat} {row : Option Nat} (h : Far w a) (hg : w.grownBy w' row) (hr : NearRow w row) : w'.heap[a]? = w.heap[a]? := by
  refine hg.block a h.1 (fun e => ?_)
  rcases hr a e.symm with q | q
  · exact h.2.1 q
  · exact h.2.2 q
theorem Far.kept {w w' : World} {a : Nat} {row : Option Nat} (h : Far w a) (hg : w.grownBy w' row) (hr : NearRow w row) : Far w' a := by
  have e := h.block hg hr
  have es : w'.shape? a = w.shape? a := by simp only [World.shape?, e]
  exact ⟨Nat.lt_of_lt_of_le h.1 hg.size, by rw [es]; exact h.2.1, by rw [es]; exact h.2.2⟩
theorem Far.cell {w w' : World} {a o : Nat} {row : Option Nat} (h : Far w a) (hg : w.grownBy w' row) (hr : NearRow w row) : w'.cell? ⟨a, o, none⟩ = w.cell? ⟨a, o, none⟩ := by
  have e := h.block hg hr
  simp [World.cell?, e]
theorem SufF.kept {w w' : World} {c a : Nat} {row : Option Nat} (h : SufF w c a) (hg : w.grownBy w' row) (hr : NearRow w row) : SufF w' c a := by
  obtain ⟨⟨ha, h1⟩, hf, hx⟩ := h
  refine ⟨⟨Nat.lt_of_lt_of_le ha hg.size, ?_⟩, hf.kept hg hr, fun x e => ?_⟩
  · by_cases e0 : c % 3 = 0
    · rw [if_pos e0] at h1 ⊢
      exact ⟨(hf.cell hg hr).trans h1.1, (hf.cell hg hr).trans h1.2⟩
    · rw [if_neg e0] at h1 ⊢
      by_cases e1 : c % 3 = 1
      · rw [if_pos e1] at h1 ⊢
        exact ⟨(hf.cell hg hr).trans h1.1, (hf.cell hg hr).trans h1.2.1, (hf.cell hg hr).trans h1.2.2⟩
      · rw [if_neg e1] at h1 ⊢
        obtain ⟨x, h2, h3, h4⟩ := h1
        exact ⟨x, Nat.lt_of_lt_of_le h2 hg.size, (hf.cell hg hr).trans h3, ((hx x h3).cell hg hr).trans h4⟩
  · rw [hf.cell hg hr] at e
    exact (hx x e).kept hg hr
theorem near_none (w : World) : NearRow w none := fun r e => by cases e
theorem near_bytes {w : World} {B n : Nat} {v : Value} {xs : List Value} (h : MR w B v n xs) : NearRow w v.ownBlock := by
  obtain ⟨_, g, cap, rfl, _, ⟨_, hs⟩, _⟩ := h
  intro r e
  simp [Value.ownBlock] at e
  subst e
  exact Or.inl hs
theorem row_shape {w : World} {B n : Nat} {v : Value} {xs : List Value} (h : w.ownsRow B 96 1 v n xs) : ∀ r, v.ownBlock = some r → (w.shape? r).map Prod.fst = some 96 := by
  intro r e
  rcases h.2 with ⟨rfl, _⟩ | ⟨g, cap, cur, rfl, _, hg, _⟩
  · simp [Value.ownBlock] at e
  · simp [Value.ownBlock] at e
    subst e
    simp only [World.shape?, hg]; rfl
theorem near_list {w : World} {B n : Nat} {v : Value} {xs : List Value} (h : w.ownsRow B 96 1 v n xs) : NearRow w v.ownBlock := fun r e => Or.inr (row_shape h r e)
theorem apart {w : World} {B n m : Nat} {v lv : Value} {xs ys : List Value} (h : MR w B v n xs) (h2 : w.ownsRow B 96 1 lv m ys) : v.ownBlock ≠ lv.ownBlock := by
  obtain ⟨_, g, cap, rfl, _, ⟨_, hs⟩, _⟩ := h
  intro e
  have := row_shape h2 g (by rw [← e]; rfl)
  rw [hs] at this
  cases this
/-- The list of the suffixes for k codes. -/
def LR (w : World) (B : Nat) (lv : Value) (k : Nat) (f : Nat → Nat) (xs : List Value) : Prop := w.ownsRow B 96 1 lv k xs ∧ ∀ j, j < k → ∃ b, xs[j]? = some (.pointer (some ⟨b, 0, none⟩)) ∧ SufF w (f j) b
theorem LR.kept {w w' : World} {B k : Nat} {lv : Value} {f : Nat → Nat} {xs : List Value} {row : Option Nat} (h : LR w B lv k f xs) (hg : w.grownBy w' row) (hr : NearRow w row) (hne : row = none ∨ lv.ownBlock ≠ row) : LR w' B lv k f xs := by
  refine ⟨h.1.kept hg ?_, fun j hj => ?_⟩
  · rcases hne with rfl | hne
    · cases lv.ownBlock <;> simp
    · exact Or.inr hne
  · obtain ⟨b, h1, h2⟩ := h.2 j hj
    exact ⟨b, h1, h2.kept hg hr⟩
theorem LR.alloc {w : World} {B k : Nat} {lv : Value} {f : Nat → Nat} {xs : List Value} (h : LR w B lv k f xs) (o : Obj) : LR (w.alloc o) B lv k f xs := h.kept (World.grownBy_alloc w o none) (near_none w) (Or.inl rfl)
theorem LR.push {w w' : World} {B k b : Nat} {lv lv' : Value} {f : Nat → Nat} {xs : List Value} (h : LR w B lv k f xs) (hb : SufF w (f k) b) (hown : w'.ownsRow B 96 1 lv' (k + 1) (xs ++ [.pointer (some ⟨b, 0, none⟩)])) (hg : w.grownBy w' lv.ownBlock) : LR w' B lv' (k + 1) f (xs ++ [.pointer (some ⟨b, 0, none⟩)]) := by
  have hx : xs.length = k := by simpa using h.1.1
  refine ⟨hown, fun j hj => ?_⟩
  by_cases e : j < k
  · obtain ⟨b', h1, h2⟩ := h.2 j e
    exact ⟨b', by rw [List.getElem?_append_left (by omega)]; exact h1, h2.kept hg (near_list h.1)⟩
  · obtain rfl : j = k := by omega
    exact ⟨b, by rw [List.getElem?_append_right (by omega)]; simp [hx], hb.kept hg (near_list h.1)⟩
theorem far_new (w : World) (c : Array Value) (t : TypeId) (h5 : t ≠ 5) (h96 : t ≠ 96) : Far (w.alloc (.cells c t)) w.heap.size := by
  have e : (w.alloc (.cells c t)).shape? w.heap.size = some (t, c.size) := World.shape?_alloc_at (w := w) c t w.heap.size rfl
  refine ⟨by simp, ?_, ?_⟩ <;> (rw [e]; simp; assumption)
theorem suf_new (w : World) (c : Nat) (hc : c % 3 = 0) (i o : Bool) (hi : i = true) : SufF (w.alloc (.cells #[.pointer none, .bool i, .bool o] 98)) c w.heap.size := by
  subst hi
  refine ⟨⟨by simp, ?_⟩, far_new w _ 98 (by decide) (by decide), fun x e => ?_⟩
  · rw [if_pos hc]; exact ⟨by simp [go_sem], by simp [go_sem]⟩
  · simp [go_sem] at e
theorem suf_new1 (w : World) (c : Nat) (hc : c % 3 = 1) : SufF (w.alloc (.cells #[.pointer none, .bool false, .bool true] 98)) c w.heap.size := by
  refine ⟨⟨by simp, ?_⟩, far_new w _ 98 (by decide) (by decide), fun x e => ?_⟩
  · rw [if_neg (by omega), if_pos hc]; exact ⟨by simp [go_sem], by simp [go_sem], by simp [go_sem]⟩
  · simp [go_sem] at e
theorem suf_new2 (w : World) (c : Nat) (hc : c % 3 = 2) : SufF ((w.alloc (.cells #[.string ⟨#[97]⟩, .pointer none, .pointer none, .pointer none, .bool false] 95)).alloc (.cells #[.pointer (some ⟨w.heap.size, 0, none⟩), .bool false, .bool false] 98)) c (w.heap.size + 1) := by
  have hf := far_new (w.alloc (.cells #[.string ⟨#[97]⟩, .pointer none, .pointer none, .pointer none, .bool false] 95)) #[.pointer (some ⟨w.heap.size, 0, none⟩), .bool false, .bool false] 98 (by decide) (by decide)
  have es : (w.alloc (.cells #[.string ⟨#[97]⟩, .pointer none, .pointer none, .pointer none, .bool false] 95)).heap.size = w.heap.size + 1 := by simp
  rw [es] at hf
  refine ⟨⟨by simp, ?_⟩, hf, fun x e => ?_⟩
  · rw [if_neg (by omega), if_neg (by omega)]; exact ⟨w.heap.size, by simp; omega, by simp [go_sem], by simp [go_sem]⟩
  · simp [go_sem] at e
    subst e
    exact (far_new w _ 95 (by decide) (by decide)).kept (World.grownBy_alloc _ _ none) (near_none _)
theorem str_byte (s : ByteArray) : Lib.strCells s = Lib.byteCells s.data.toList := by simp [Lib.strCells, Lib.byteCells]
theorem byteCells_app (x y : List UInt8) : Lib.byteCells (x ++ y) = Lib.byteCells x ++ Lib.byteCells y := by simp [Lib.byteCells]
theorem byteCells_length (x : List UInt8) : (Lib.byteCells x).length = x.length := by simp [Lib.byteCells]
theorem backM (w : World) (B : Nat) (v : Value) (T : List UInt8) (h : MR w B v T.length (Lib.byteCells T)) : (convert 72 9 v).run Tryd.prog w = .ok (.string ⟨T.toArray⟩) w := by
  obtain ⟨_, g, cap, rfl, _, _, _, _, hc, _⟩ := h
  exact run_convert_bytes_back (P := Tryd.prog) w 72 9 5 ⟨g, 0, none⟩ cap T Tryd.underlying72 Tryd.underlying5 Tryd.underlying9 (fun j hj => by
    rw [Go.WideShapes.add_plain, Nat.zero_add]
    exact hc j _ (by simp [Lib.byteCells, hj]))
theorem below_da (w : World) (o : Obj) : Below w.heap.size w (w.drew.alloc o) := by
  have b := below_fresh w o
  exact ⟨b.os, b.tape, b.output, b.size, b.block⟩
theorem cell_one (w : World) (v : Value) (t : TypeId) : ∀ j u, [v][j]? = some u → (w.alloc (.cells #[v] t)).cell? ((⟨w.heap.size, 0, none⟩ : Addr).add j) = some u := by
  intro j u hj
  match j, hj with
  | 0, hj => simp at hj; subst hj; simp [Addr.add]
theorem cell_two (w : World) (v u' : Value) (t : TypeId) : ∀ j u, [v, u'][j]? = some u → (w.alloc (.cells #[v, u'] t)).cell? ((⟨w.heap.size, 0, none⟩ : Addr).add j) = some u := by
  intro j u hj
  match j, hj with
  | 0, hj => simp at hj; subst hj; simp [Addr.add]
  | 1, hj => simp at hj; subst hj; simp [Addr.add]

set_option maxRecDepth 100000 in
set_option maxHeartbeats 4000000 in
theorem suffixes_any (a : Option Addr) (n c : Nat) (f : Nat → Nat) (s : ByteArray) (w : World) (hn : n ≤ 65536) (hs : s.size ≤ 131072) (hf : ∀ j, f j < 256) (h : BytIn w a n c f) :
    Calls Tryd.prog 40 #[.slice a n c, .string s] w fun e w' => (∃ a' c', e = .returned (.tuple #[.slice a' n c', .string ⟨(s.data.toList ++ sfxN f s.data.toList n).toArray⟩]) ∧ SufIn w' a' n f) ∧ Below w.heap.size w w' := by
  obtain ⟨ip, hi, hz0, hz1, hz2⟩ := info_partsB Tryd.infoSP
  have HI := Lib.hid hi
  have HZ0 := Lib.hid hz0
  have HZ1 := Lib.hid hz1
  have HZ2 := Lib.hid hz2
  clear hi hz0 hz1 hz2
  have hcv := fun w s => run_bytes_of_string (P := Tryd.prog) w 9 72 5 s Tryd.underlying9 Tryd.underlying72 Tryd.underlying5
  go_enter Tryd.func40, Tryd.ntmps40
  go_wp2_with (at_make; go_loud (refine wpList_make_own _ rfl _ _ 40 rfl w.heap.size 96 ip (.pointer none) 1 Tryd.underlying40 HI.out HZ0.out HZ1.out _ _ _ n rfl rfl rfl (by rw [HZ2.out]; omega) (by unfold maxLen; omega) (by simp) ?_))
  intro w1 hrow1 hg1
  clear hcv
  have hcapM : grownCap w s.size 0 5 ≤ maxLen := grownCap_le_maxLen w s.size 0 5 (by unfold maxLen; omega)
  have M1 : MR w1 w.heap.size (.slice (some ⟨w.heap.size, 0, none⟩) s.size (grownCap w s.size 0 5)) s.data.toList.length (Lib.byteCells s.data.toList) := by
    rw [← str_byte, ← Lib.size_eq]
    exact (MR.of_bytes w w.heap.size s (grownCap w s.size 0 5) (Nat.le_refl _) (grownCap_ge w s.size 0 5) hcapM).kept hg1 (by simp [Value.ownBlock])
  have B1 : Below w.heap.size w w1 := (below_da w (.cells (bytesRow s (grownCap w s.size 0 5)) 5 ((bytesRow s (grownCap w s.size 0 5)).size, (bytesRow s (grownCap w s.size 0 5)).size + 1))).grown hg1 (by simp) (fun j hj => by cases hj)
  have L1 : LR w1 w.heap.size _ 0 f [] := ⟨hrow1, fun j hj => absurd hj (Nat.not_lt_zero _)⟩
  clear hrow1 hg1 hcapM
  have SB := Lib.size_eq s
  generalize hbs : s.data.toList = bs at *
  have HBS := Lib.hid hbs
  clear hbs
  generalize (Value.slice (some ⟨w.heap.size, 0, none⟩) s.size (grownCap w s.size 0 5)) = ov1 at *
  go_wp2_with fail
  go_loopw [6, 7, 8] (fun ov lv i wr => ∃ k : Nat, k ≤ n ∧ i = .int .i64 k ∧ MR wr w.heap.size ov (bs ++ sfxN f bs k).length (Lib.byteCells (bs ++ sfxN f bs k)) ∧ (∃ xs, LR wr w.heap.size lv k f xs) ∧ Below w.heap.size w wr) (fun _ _ i _ => n - (intOf i).toNat)
  case atStart => exact ⟨0, Nat.zero_le _, rfl, by rw [sfxN, List.append_nil]; exact M1, ⟨_, L1⟩, B1⟩
  case round =>
    clear M1 L1 B1
    obtain ⟨k, hk, rfl, hM, ⟨xs, hL⟩, hb⟩ := hrel
    have HM := Lib.hid hM
    have HL := Lib.hid hL
    have HB := Lib.hid hb
    have HSZ := Lib.hid hb.size
    have LE := Lib.hid (sfxN_le f bs k)
    clear hM hL
    by_cases hlt : k < n
    · rcases h.below hb with ⟨_, h0, _⟩ | ⟨x, rfl, hx⟩
      · omega
      have hc := hx k hlt
      have HF := hf k
      clear hx hb
      generalize hT : bs ++ sfxN f bs k = T at *
      have HT := Lib.hid hT
      clear hT
      have TL : T.length ≤ 393216 := by have := LE.out; rw [← HT.out, List.length_append]; omega
      have HS1 : Hid (bs ++ sfxN f bs (k + 1) = T ++ sfxAdd T (f k)) := Lib.hid (by rw [sfxN, ← List.append_assoc, HT.out])
      generalize hFK : f k = fk at *
      have HFK := Lib.hid hFK
      clear hFK
      by_cases e0 : fk % 3 = 0
      · have n0 : ((fk : Int) % 3 == 0) = true := by simp; omega
        have HADD := Lib.hid (show sfxAdd T fk = [91, 93] by rw [sfxAdd, if_pos e0])
        go_wp2_with (at_builtin; go_loud (refine wpList_append_own _ rfl _ _ 40 rfl w.heap.size 96 ip (.pointer none) 1 8 Tryd.underlying40 HI.out HZ0.out HZ1.out HZ2.out rfl (by decide) _ _ _ rfl ((HL.out.1.alloc (.cells #[.pointer none, .bool true, .bool false] 98)).alloc (.cells #[.pointer (some ⟨wr.heap.size, 0, none⟩)] 96)) ⟨wr.heap.size + 1, 0, none⟩ 1 1 [.pointer (some ⟨wr.heap.size, 0, none⟩)] rfl rfl ?q10 (by simp [Value.oneCell']) ?q13 ?q14 ?q15 ?_))
        case q10 =>
          intro j u hj
          match j, hj with
          | 0, hj => simp at hj; subst hj; simp [Addr.add, go_sem]
        case q13 => unfold maxLen; omega
        case q14 => omega
        case q15 => have := HSZ.out; simp; omega
        intro lv4 w4 hown4 hgrow4 _
        have hsuf := (suf_new wr fk e0 true false rfl).kept (World.grownBy_alloc _ (.cells #[.pointer (some ⟨wr.heap.size, 0, none⟩)] 96) none) (near_none _)
        have L4 := Lib.hid (LR.push (((HL.out.alloc (.cells #[.pointer none, .bool true, .bool false] 98)).alloc (.cells #[.pointer (some ⟨wr.heap.size, 0, none⟩)] 96))) (by rw [HFK.out]; exact hsuf) hown4 hgrow4)
        have M4 := Lib.hid ((((HM.out.alloc (.cells #[.pointer none, .bool true, .bool false] 98)).alloc (.cells #[.pointer (some ⟨wr.heap.size, 0, none⟩)] 96))).kept hgrow4 (apart (((HM.out.alloc (.cells #[.pointer none, .bool true, .bool false] 98)).alloc (.cells #[.pointer (some ⟨wr.heap.size, 0, none⟩)] 96))) ((HL.out.alloc (.cells #[.pointer none, .bool true, .bool false] 98)).alloc (.cells #[.pointer (some ⟨wr.heap.size, 0, none⟩)] 96)).1))
        have B4 := Lib.hid ((((HB.out.alloc (by have := HSZ.out; first | omega | (simp; omega)) (.cells #[.pointer none, .bool true, .bool false] 98)).alloc (by have := HSZ.out; first | omega | (simp; omega)) (.cells #[.pointer (some ⟨wr.heap.size, 0, none⟩)] 96))).grown hgrow4 (by have := HSZ.out; simp; omega) (fun j hj => (((HL.out.alloc (.cells #[.pointer none, .bool true, .bool false] 98)).alloc (.cells #[.pointer (some ⟨wr.heap.size, 0, none⟩)] 96)).1.lt j hj).1))
        have S4 := Lib.hid B4.out.size
        clear hown4 hgrow4 hsuf HL HM HB HSZ
        go_wp2_with (at_builtin; go_loud (refine wpList_append_MR _ rfl _ _ rfl w.heap.size _ _ _ rfl (M4.out.alloc (.cells #[.int .u8 91, .int .u8 93] 5)) ⟨w4.heap.size, 0, none⟩ 2 2 [.int .u8 91, .int .u8 93] rfl rfl (cell_two _ _ _ _) (by simp [Value.oneCell']) ?q23 ?q25 ?_))
        case q23 => omega
        case q25 => have := S4.out; simp; omega
        intro v5 w5 hown5 hgrow5
        have L5 := Lib.hid ((L4.out.alloc (.cells #[.int .u8 91, .int .u8 93] 5)).kept hgrow5 (near_bytes (M4.out.alloc (.cells #[.int .u8 91, .int .u8 93] 5))) (Or.inr (apart (M4.out.alloc (.cells #[.int .u8 91, .int .u8 93] 5)) (L4.out.alloc (.cells #[.int .u8 91, .int .u8 93] 5)).1).symm))
        have B5 := Lib.hid ((B4.out.alloc S4.out (.cells #[.int .u8 91, .int .u8 93] 5)).grown hgrow5 (by have := S4.out; simp; omega) (fun j hj => ((M4.out.alloc (.cells #[.int .u8 91, .int .u8 93] 5)).lt j hj).1))
        have S5 := Lib.hid B5.out.size
        have M5 : Hid (MR w5 w.heap.size v5 (T ++ [91, 93]).length (Lib.byteCells (T ++ [91, 93]))) := Lib.hid (by rw [byteCells_app, List.length_append]; exact hown5)
        clear hown5 hgrow5
        go_wp2_with fail
        go_roundw
        case rel => exact ⟨k + 1, by omega, by go_num, by rw [HS1.out, HADD.out]; simpa only [List.append_assoc] using M5.out, ⟨_, L5.out⟩, B5.out⟩
        case measure => simp [intOf]; omega
      · by_cases e1 : fk % 3 = 1
        · have n0 : ((fk : Int) % 3 == 0) = false := by simp; omega
          have n1 : ((fk : Int) % 3 == 1) = true := by simp; omega
          have HADD := Lib.hid (show sfxAdd T fk = [63] by rw [sfxAdd, if_neg e0, if_pos e1])
          go_wp2_with (at_builtin; go_loud (refine wpList_append_own _ rfl _ _ 40 rfl w.heap.size 96 ip (.pointer none) 1 8 Tryd.underlying40 HI.out HZ0.out HZ1.out HZ2.out rfl (by decide) _ _ _ rfl ((HL.out.1.alloc (.cells #[.pointer none, .bool false, .bool true] 98)).alloc (.cells #[.pointer (some ⟨wr.heap.size, 0, none⟩)] 96)) ⟨wr.heap.size + 1, 0, none⟩ 1 1 [.pointer (some ⟨wr.heap.size, 0, none⟩)] rfl rfl ?q30 (by simp [Value.oneCell']) ?q33 ?q34 ?q35 ?_))
          case q30 =>
            intro j u hj
            match j, hj with
            | 0, hj => simp at hj; subst hj; simp [Addr.add, go_sem]
          case q33 => unfold maxLen; omega
          case q34 => omega
          case q35 => have := HSZ.out; simp; omega
          intro lv4 w4 hown4 hgrow4 _
          have hsuf := (suf_new1 wr fk e1).kept (World.grownBy_alloc _ (.cells #[.pointer (some ⟨wr.heap.size, 0, none⟩)] 96) none) (near_none _)
          have L4 := Lib.hid (LR.push (((HL.out.alloc (.cells #[.pointer none, .bool false, .bool true] 98)).alloc (.cells #[.pointer (some ⟨wr.heap.size, 0, none⟩)] 96))) (by rw [HFK.out]; exact hsuf) hown4 hgrow4)
          have M4 := Lib.hid ((((HM.out.alloc (.cells #[.pointer none, .bool false, .bool true] 98)).alloc (.cells #[.pointer (some ⟨wr.heap.size, 0, none⟩)] 96))).kept hgrow4 (apart (((HM.out.alloc (.cells #[.pointer none, .bool false, .bool true] 98)).alloc (.cells #[.pointer (some ⟨wr.heap.size, 0, none⟩)] 96))) ((HL.out.alloc (.cells #[.pointer none, .bool false, .bool true] 98)).alloc (.cells #[.pointer (some ⟨wr.heap.size, 0, none⟩)] 96)).1))
          have B4 := Lib.hid ((((HB.out.alloc (by have := HSZ.out; first | omega | (simp; omega)) (.cells #[.pointer none, .bool false, .bool true] 98)).alloc (by have := HSZ.out; first | omega | (simp; omega)) (.cells #[.pointer (some ⟨wr.heap.size, 0, none⟩)] 96))).grown hgrow4 (by have := HSZ.out; simp; omega) (fun j hj => (((HL.out.alloc (.cells #[.pointer none, .bool false, .bool true] 98)).alloc (.cells #[.pointer (some ⟨wr.heap.size, 0, none⟩)] 96)).1.lt j hj).1))
          have S4 := Lib.hid B4.out.size
          clear hown4 hgrow4 hsuf HL HM HB HSZ
          go_wp2_with (at_builtin; go_loud (refine wpList_append_MR _ rfl _ _ rfl w.heap.size _ _ _ rfl (M4.out.alloc (.cells #[.int .u8 63] 5)) ⟨w4.heap.size, 0, none⟩ 1 1 [.int .u8 63] rfl rfl (cell_one _ _ _) (by simp [Value.oneCell']) ?q43 ?q45 ?_))
          case q43 => omega
          case q45 => have := S4.out; simp; omega
          intro v5 w5 hown5 hgrow5
          have L5 := Lib.hid ((L4.out.alloc (.cells #[.int .u8 63] 5)).kept hgrow5 (near_bytes (M4.out.alloc (.cells #[.int .u8 63] 5))) (Or.inr (apart (M4.out.alloc (.cells #[.int .u8 63] 5)) (L4.out.alloc (.cells #[.int .u8 63] 5)).1).symm))
          have B5 := Lib.hid ((B4.out.alloc S4.out (.cells #[.int .u8 63] 5)).grown hgrow5 (by have := S4.out; simp; omega) (fun j hj => ((M4.out.alloc (.cells #[.int .u8 63] 5)).lt j hj).1))
          have S5 := Lib.hid B5.out.size
          have M5 : Hid (MR w5 w.heap.size v5 (T ++ [63]).length (Lib.byteCells (T ++ [63]))) := Lib.hid (by rw [byteCells_app, List.length_append]; exact hown5)
          clear hown5 hgrow5
          go_wp2_with fail
          go_roundw
          case rel => exact ⟨k + 1, by omega, by go_num, by rw [HS1.out, HADD.out]; simpa only [List.append_assoc] using M5.out, ⟨_, L5.out⟩, B5.out⟩
          case measure => simp [intOf]; omega
        · have e2 : fk % 3 = 2 := by omega
          have n0 : ((fk : Int) % 3 == 0) = false := by simp; omega
          have n1 : ((fk : Int) % 3 == 1) = false := by simp; omega
          have HADD := Lib.hid (show sfxAdd T fk = gap T ++ [46, 97] by rw [sfxAdd, if_neg e0, if_neg e1])
          obtain ⟨g, cap, tl, rfl, htl⟩ : ∃ g cap tl, u6 = .slice (some ⟨g, 0, none⟩) tl cap ∧ tl = T.length := by obtain ⟨_, g, cap, e, _⟩ := HM.out; exact ⟨g, cap, _, e, rfl⟩
          have HTL := Lib.hid htl
          clear htl
          go_wp2_with (at_builtin; go_loud (refine wpList_append_own _ rfl _ _ 40 rfl w.heap.size 96 ip (.pointer none) 1 8 Tryd.underlying40 HI.out HZ0.out HZ1.out HZ2.out rfl (by decide) _ _ _ rfl (((HL.out.1.alloc (.cells #[.string ⟨#[97]⟩, .pointer none, .pointer none, .pointer none, .bool false] 95)).alloc (.cells #[.pointer (some ⟨wr.heap.size, 0, none⟩), .bool false, .bool false] 98)).alloc (.cells #[.pointer (some ⟨(wr.heap.size + 1), 0, none⟩)] 96)) ⟨(wr.heap.size + 1) + 1, 0, none⟩ 1 1 [.pointer (some ⟨(wr.heap.size + 1), 0, none⟩)] rfl rfl ?q50 (by simp [Value.oneCell']) ?q53 ?q54 ?q55 ?_))
          case q50 =>
            intro j u hj
            match j, hj with
            | 0, hj => simp at hj; subst hj; simp [Addr.add, go_sem]
          case q53 => unfold maxLen; omega
          case q54 => omega
          case q55 => have := HSZ.out; simp; omega
          intro lv4 w4 hown4 hgrow4 _
          have hsuf := (suf_new2 wr fk e2).kept (World.grownBy_alloc _ (.cells #[.pointer (some ⟨(wr.heap.size + 1), 0, none⟩)] 96) none) (near_none _)
          have L4 := Lib.hid (LR.push ((((HL.out.alloc (.cells #[.string ⟨#[97]⟩, .pointer none, .pointer none, .pointer none, .bool false] 95)).alloc (.cells #[.pointer (some ⟨wr.heap.size, 0, none⟩), .bool false, .bool false] 98)).alloc (.cells #[.pointer (some ⟨(wr.heap.size + 1), 0, none⟩)] 96))) (by rw [HFK.out]; exact hsuf) hown4 hgrow4)
          have M4 := Lib.hid (((((HM.out.alloc (.cells #[.string ⟨#[97]⟩, .pointer none, .pointer none, .pointer none, .bool false] 95)).alloc (.cells #[.pointer (some ⟨wr.heap.size, 0, none⟩), .bool false, .bool false] 98)).alloc (.cells #[.pointer (some ⟨(wr.heap.size + 1), 0, none⟩)] 96))).kept hgrow4 (apart ((((HM.out.alloc (.cells #[.string ⟨#[97]⟩, .pointer none, .pointer none, .pointer none, .bool false] 95)).alloc (.cells #[.pointer (some ⟨wr.heap.size, 0, none⟩), .bool false, .bool false] 98)).alloc (.cells #[.pointer (some ⟨(wr.heap.size + 1), 0, none⟩)] 96))) (((HL.out.alloc (.cells #[.string ⟨#[97]⟩, .pointer none, .pointer none, .pointer none, .bool false] 95)).alloc (.cells #[.pointer (some ⟨wr.heap.size, 0, none⟩), .bool false, .bool false] 98)).alloc (.cells #[.pointer (some ⟨(wr.heap.size + 1), 0, none⟩)] 96)).1))
          have B4 := Lib.hid (((((HB.out.alloc (by have := HSZ.out; first | omega | (simp; omega)) (.cells #[.string ⟨#[97]⟩, .pointer none, .pointer none, .pointer none, .bool false] 95)).alloc (by have := HSZ.out; first | omega | (simp; omega)) (.cells #[.pointer (some ⟨wr.heap.size, 0, none⟩), .bool false, .bool false] 98)).alloc (by have := HSZ.out; first | omega | (simp; omega)) (.cells #[.pointer (some ⟨(wr.heap.size + 1), 0, none⟩)] 96))).grown hgrow4 (by have := HSZ.out; simp; omega) (fun j hj => ((((HL.out.alloc (.cells #[.string ⟨#[97]⟩, .pointer none, .pointer none, .pointer none, .bool false] 95)).alloc (.cells #[.pointer (some ⟨wr.heap.size, 0, none⟩), .bool false, .bool false] 98)).alloc (.cells #[.pointer (some ⟨(wr.heap.size + 1), 0, none⟩)] 96)).1.lt j hj).1))
          have S4 := Lib.hid B4.out.size
          clear hown4 hgrow4 hsuf HL HM HB HSZ
          rcases List.eq_nil_or_concat T with rfl | ⟨T', ch, rfl⟩
          · have HGAP : Hid (gap ([] : List UInt8) = []) := Lib.hid rfl
            obtain rfl : tl = 0 := by simpa using HTL.out
            clear HTL
            go_wp2_with (at_builtin; go_loud (refine wpList_append_MR _ rfl _ _ rfl w.heap.size _ _ _ rfl (M4.out.alloc (.cells #[.int .u8 46, .int .u8 97] 5)) ⟨w4.heap.size, 0, none⟩ 2 2 [.int .u8 46, .int .u8 97] rfl rfl (cell_two _ _ _ _) (by simp [Value.oneCell']) ?q63 ?q65 ?_))
            case q63 => simp
            case q65 => have := S4.out; simp; omega
            intro v5 w5 hown5 hgrow5
            have L5 := Lib.hid ((L4.out.alloc (.cells #[.int .u8 46, .int .u8 97] 5)).kept hgrow5 (near_bytes (M4.out.alloc (.cells #[.int .u8 46, .int .u8 97] 5))) (Or.inr (apart (M4.out.alloc (.cells #[.int .u8 46, .int .u8 97] 5)) (L4.out.alloc (.cells #[.int .u8 46, .int .u8 97] 5)).1).symm))
            have B5 := Lib.hid ((B4.out.alloc S4.out (.cells #[.int .u8 46, .int .u8 97] 5)).grown hgrow5 (by have := S4.out; simp; omega) (fun j hj => ((M4.out.alloc (.cells #[.int .u8 46, .int .u8 97] 5)).lt j hj).1))
            have S5 := Lib.hid B5.out.size
            have M5 : Hid (MR w5 w.heap.size v5 ([] ++ [46, 97]).length (Lib.byteCells ([] ++ [46, 97]))) := Lib.hid (by simpa [byteCells_app, Lib.byteCells] using hown5)
            clear hown5 hgrow5
            go_wp2_with fail
            go_roundw
            case rel => exact ⟨k + 1, by omega, by go_num, by rw [HS1.out, HADD.out, HGAP.out, List.nil_append]; exact M5.out, ⟨_, L5.out⟩, B5.out⟩
            case measure => simp [intOf]; omega
          · rw [List.concat_eq_append] at *
            have hcl : w4.cell? ⟨g, T'.length, none⟩ = some (.int .u8 ch.toNat) := by
              obtain ⟨_, g', cap', e, _, _, _, _, hcc, _⟩ := M4.out
              injection e with e1 e2 e3
              injection e1 with e1
              injection e1 with e1
              subst e1
              exact hcc _ _ (by simp [Lib.byteCells])
            have hgc : (ch == 46 || (decide (48 ≤ ch) && decide (ch ≤ 57))) = decide ((ch.toNat : Int) = 46 ∨ (48 ≤ (ch.toNat : Int) ∧ (ch.toNat : Int) ≤ 57)) := by
              rw [Bool.eq_iff_iff]
              simp [UInt8.le_iff_toNat_le, ← UInt8.toNat_inj]
              omega
            have htl : tl = T'.length + 1 := by have := HTL.out; simpa using this
            have hml : T'.length ≤ 393216 := by have := TL; rw [List.length_append] at this; omega
            have hidx : (tl : Int) - 1 = (T'.length : Int) := by omega
            have hpos : (0 : Int) < (tl : Int) := by omega
            have hbd : (T'.length : Int) < (tl : Int) := by omega
            have hbd2 : T'.length < tl := by omega
            clear htl HTL
            by_cases h46 : (ch.toNat : Int) = 46
            · have HGAP : Hid (gap (T' ++ [ch]) = [32]) := Lib.hid (by rw [gap, gapB_snoc, hgc, if_pos (by simp only [decide_eq_true_eq]; omega)])
              clear hgc
              go_wp2_with (at_builtin; go_loud (refine wpList_append_MR _ rfl _ _ rfl w.heap.size _ _ _ rfl (M4.out.alloc (.cells #[.int .u8 32] 5)) ⟨w4.heap.size, 0, none⟩ 1 1 [.int .u8 32] rfl rfl (cell_one _ _ _) (by simp [Value.oneCell']) ?q73 ?q75 ?_))
              case q73 => first | omega | (simp only [List.length_append, List.length_cons, List.length_nil]; omega)
              case q75 => have := S4.out; simp; omega
              intro v5 w5 hown5 hgrow5
              have L5 := Lib.hid ((L4.out.alloc (.cells #[.int .u8 32] 5)).kept hgrow5 (near_bytes (M4.out.alloc (.cells #[.int .u8 32] 5))) (Or.inr (apart (M4.out.alloc (.cells #[.int .u8 32] 5)) (L4.out.alloc (.cells #[.int .u8 32] 5)).1).symm))
              have B5 := Lib.hid ((B4.out.alloc S4.out (.cells #[.int .u8 32] 5)).grown hgrow5 (by have := S4.out; simp; omega) (fun j hj => ((M4.out.alloc (.cells #[.int .u8 32] 5)).lt j hj).1))
              have S5 := Lib.hid B5.out.size
              have M5 : Hid (MR w5 w.heap.size v5 ((T' ++ [ch]) ++ [32]).length (Lib.byteCells ((T' ++ [ch]) ++ [32]))) := Lib.hid (by simpa [byteCells_app, Lib.byteCells] using hown5)
              clear hown5 hgrow5
              go_wp2_with (at_builtin; go_loud (refine wpList_append_MR _ rfl _ _ rfl w.heap.size _ _ _ rfl (M5.out.alloc (.cells #[.int .u8 46, .int .u8 97] 5)) ⟨w5.heap.size, 0, none⟩ 2 2 [.int .u8 46, .int .u8 97] rfl rfl (cell_two _ _ _ _) (by simp [Value.oneCell']) ?q83 ?q85 ?_))
              case q83 => first | omega | (simp only [List.length_append, List.length_cons, List.length_nil]; omega)
              case q85 => have := S5.out; simp; omega
              intro v6 w6 hown6 hgrow6
              have L6 := Lib.hid ((L5.out.alloc (.cells #[.int .u8 46, .int .u8 97] 5)).kept hgrow6 (near_bytes (M5.out.alloc (.cells #[.int .u8 46, .int .u8 97] 5))) (Or.inr (apart (M5.out.alloc (.cells #[.int .u8 46, .int .u8 97] 5)) (L5.out.alloc (.cells #[.int .u8 46, .int .u8 97] 5)).1).symm))
              have B6 := Lib.hid ((B5.out.alloc S5.out (.cells #[.int .u8 46, .int .u8 97] 5)).grown hgrow6 (by have := S5.out; simp; omega) (fun j hj => ((M5.out.alloc (.cells #[.int .u8 46, .int .u8 97] 5)).lt j hj).1))
              have S6 := Lib.hid B6.out.size
              have M6 : Hid (MR w6 w.heap.size v6 ((T' ++ [ch]) ++ [32] ++ [46, 97]).length (Lib.byteCells ((T' ++ [ch]) ++ [32] ++ [46, 97]))) := Lib.hid (by simpa [byteCells_app, Lib.byteCells] using hown6)
              clear hown6 hgrow6
              go_wp2_with fail
              go_roundw
              case rel => exact ⟨k + 1, by omega, by go_num, by rw [HS1.out, HADD.out, HGAP.out]; simpa only [List.append_assoc] using M6.out, ⟨_, L6.out⟩, B6.out⟩
              case measure => simp [intOf]; omega
            · by_cases h48 : 48 ≤ (ch.toNat : Int)
              · by_cases h57 : (ch.toNat : Int) ≤ 57
                · have HGAP : Hid (gap (T' ++ [ch]) = [32]) := Lib.hid (by rw [gap, gapB_snoc, hgc, if_pos (by simp only [decide_eq_true_eq]; omega)])
                  clear hgc
                  go_wp2_with (at_builtin; go_loud (refine wpList_append_MR _ rfl _ _ rfl w.heap.size _ _ _ rfl (M4.out.alloc (.cells #[.int .u8 32] 5)) ⟨w4.heap.size, 0, none⟩ 1 1 [.int .u8 32] rfl rfl (cell_one _ _ _) (by simp [Value.oneCell']) ?q93 ?q95 ?_))
                  case q93 => first | omega | (simp only [List.length_append, List.length_cons, List.length_nil]; omega)
                  case q95 => have := S4.out; simp; omega
                  intro v5 w5 hown5 hgrow5
                  have L5 := Lib.hid ((L4.out.alloc (.cells #[.int .u8 32] 5)).kept hgrow5 (near_bytes (M4.out.alloc (.cells #[.int .u8 32] 5))) (Or.inr (apart (M4.out.alloc (.cells #[.int .u8 32] 5)) (L4.out.alloc (.cells #[.int .u8 32] 5)).1).symm))
                  have B5 := Lib.hid ((B4.out.alloc S4.out (.cells #[.int .u8 32] 5)).grown hgrow5 (by have := S4.out; simp; omega) (fun j hj => ((M4.out.alloc (.cells #[.int .u8 32] 5)).lt j hj).1))
                  have S5 := Lib.hid B5.out.size
                  have M5 : Hid (MR w5 w.heap.size v5 ((T' ++ [ch]) ++ [32]).length (Lib.byteCells ((T' ++ [ch]) ++ [32]))) := Lib.hid (by simpa [byteCells_app, Lib.byteCells] using hown5)
                  clear hown5 hgrow5
                  go_wp2_with (at_builtin; go_loud (refine wpList_append_MR _ rfl _ _ rfl w.heap.size _ _ _ rfl (M5.out.alloc (.cells #[.int .u8 46, .int .u8 97] 5)) ⟨w5.heap.size, 0, none⟩ 2 2 [.int .u8 46, .int .u8 97] rfl rfl (cell_two _ _ _ _) (by simp [Value.oneCell']) ?q103 ?q105 ?_))
                  case q103 => first | omega | (simp only [List.length_append, List.length_cons, List.length_nil]; omega)
                  case q105 => have := S5.out; simp; omega
                  intro v6 w6 hown6 hgrow6
                  have L6 := Lib.hid ((L5.out.alloc (.cells #[.int .u8 46, .int .u8 97] 5)).kept hgrow6 (near_bytes (M5.out.alloc (.cells #[.int .u8 46, .int .u8 97] 5))) (Or.inr (apart (M5.out.alloc (.cells #[.int .u8 46, .int .u8 97] 5)) (L5.out.alloc (.cells #[.int .u8 46, .int .u8 97] 5)).1).symm))
                  have B6 := Lib.hid ((B5.out.alloc S5.out (.cells #[.int .u8 46, .int .u8 97] 5)).grown hgrow6 (by have := S5.out; simp; omega) (fun j hj => ((M5.out.alloc (.cells #[.int .u8 46, .int .u8 97] 5)).lt j hj).1))
                  have S6 := Lib.hid B6.out.size
                  have M6 : Hid (MR w6 w.heap.size v6 ((T' ++ [ch]) ++ [32] ++ [46, 97]).length (Lib.byteCells ((T' ++ [ch]) ++ [32] ++ [46, 97]))) := Lib.hid (by simpa [byteCells_app, Lib.byteCells] using hown6)
                  clear hown6 hgrow6
                  go_wp2_with fail
                  go_roundw
                  case rel => exact ⟨k + 1, by omega, by go_num, by rw [HS1.out, HADD.out, HGAP.out]; simpa only [List.append_assoc] using M6.out, ⟨_, L6.out⟩, B6.out⟩
                  case measure => simp [intOf]; omega
                · have HGAP : Hid (gap (T' ++ [ch]) = []) := Lib.hid (by rw [gap, gapB_snoc, hgc, if_neg (by simp only [decide_eq_true_eq]; omega)])
                  clear hgc
                  go_wp2_with (at_builtin; go_loud (refine wpList_append_MR _ rfl _ _ rfl w.heap.size _ _ _ rfl (M4.out.alloc (.cells #[.int .u8 46, .int .u8 97] 5)) ⟨w4.heap.size, 0, none⟩ 2 2 [.int .u8 46, .int .u8 97] rfl rfl (cell_two _ _ _ _) (by simp [Value.oneCell']) ?q113 ?q115 ?_))
                  case q113 => first | omega | (simp only [List.length_append, List.length_cons, List.length_nil]; omega)
                  case q115 => have := S4.out; simp; omega
                  intro v5 w5 hown5 hgrow5
                  have L5 := Lib.hid ((L4.out.alloc (.cells #[.int .u8 46, .int .u8 97] 5)).kept hgrow5 (near_bytes (M4.out.alloc (.cells #[.int .u8 46, .int .u8 97] 5))) (Or.inr (apart (M4.out.alloc (.cells #[.int .u8 46, .int .u8 97] 5)) (L4.out.alloc (.cells #[.int .u8 46, .int .u8 97] 5)).1).symm))
                  have B5 := Lib.hid ((B4.out.alloc S4.out (.cells #[.int .u8 46, .int .u8 97] 5)).grown hgrow5 (by have := S4.out; simp; omega) (fun j hj => ((M4.out.alloc (.cells #[.int .u8 46, .int .u8 97] 5)).lt j hj).1))
                  have S5 := Lib.hid B5.out.size
                  have M5 : Hid (MR w5 w.heap.size v5 ((T' ++ [ch]) ++ [46, 97]).length (Lib.byteCells ((T' ++ [ch]) ++ [46, 97]))) := Lib.hid (by simpa [byteCells_app, Lib.byteCells] using hown5)
                  clear hown5 hgrow5
                  go_wp2_with fail
                  go_roundw
                  case rel => exact ⟨k + 1, by omega, by go_num, by rw [HS1.out, HADD.out, HGAP.out, List.nil_append]; simpa only [List.append_assoc] using M5.out, ⟨_, L5.out⟩, B5.out⟩
                  case measure => simp [intOf]; omega
              · have HGAP : Hid (gap (T' ++ [ch]) = []) := Lib.hid (by rw [gap, gapB_snoc, hgc, if_neg (by simp only [decide_eq_true_eq]; omega)])
                clear hgc
                go_wp2_with (at_builtin; go_loud (refine wpList_append_MR _ rfl _ _ rfl w.heap.size _ _ _ rfl (M4.out.alloc (.cells #[.int .u8 46, .int .u8 97] 5)) ⟨w4.heap.size, 0, none⟩ 2 2 [.int .u8 46, .int .u8 97] rfl rfl (cell_two _ _ _ _) (by simp [Value.oneCell']) ?q123 ?q125 ?_))
                case q123 => first | omega | (simp only [List.length_append, List.length_cons, List.length_nil]; omega)
                case q125 => have := S4.out; simp; omega
                intro v5 w5 hown5 hgrow5
                have L5 := Lib.hid ((L4.out.alloc (.cells #[.int .u8 46, .int .u8 97] 5)).kept hgrow5 (near_bytes (M4.out.alloc (.cells #[.int .u8 46, .int .u8 97] 5))) (Or.inr (apart (M4.out.alloc (.cells #[.int .u8 46, .int .u8 97] 5)) (L4.out.alloc (.cells #[.int .u8 46, .int .u8 97] 5)).1).symm))
                have B5 := Lib.hid ((B4.out.alloc S4.out (.cells #[.int .u8 46, .int .u8 97] 5)).grown hgrow5 (by have := S4.out; simp; omega) (fun j hj => ((M4.out.alloc (.cells #[.int .u8 46, .int .u8 97] 5)).lt j hj).1))
                have S5 := Lib.hid B5.out.size
                have M5 : Hid (MR w5 w.heap.size v5 ((T' ++ [ch]) ++ [46, 97]).length (Lib.byteCells ((T' ++ [ch]) ++ [46, 97]))) := Lib.hid (by simpa [byteCells_app, Lib.byteCells] using hown5)
                clear hown5 hgrow5
                go_wp2_with fail
                go_roundw
                case rel => exact ⟨k + 1, by omega, by go_num, by rw [HS1.out, HADD.out, HGAP.out, List.nil_append]; simpa only [List.append_assoc] using M5.out, ⟨_, L5.out⟩, B5.out⟩
                case measure => simp [intOf]; omega
    · obtain rfl : n = k := by omega
      obtain ⟨a', c', rfl, hS⟩ : ∃ a' c', u7 = .slice a' n c' ∧ SufIn wr a' n f := by
        rcases HL.out.1.2 with ⟨rfl, h0⟩ | ⟨g, cap, cur, rfl, hg⟩
        · subst h0; exact ⟨none, 0, rfl, Or.inl rfl⟩
        · refine ⟨some ⟨g, 0, none⟩, cap, rfl, Or.inr ⟨_, rfl, fun j hj => ?_⟩⟩
          obtain ⟨b, h1, h2⟩ := HL.out.2 j hj
          exact ⟨b, HL.out.1.cells (g := g) rfl j _ h1, h2.1⟩
      have hback2 : (convert 72 9 u6).run Tryd.prog wr.drew = .ok (.string ⟨(bs ++ sfxN f bs n).toArray⟩) wr.drew := backM wr.drew _ _ _ HM.out
      have hS2 : SufIn wr.drew a' n f := hS
      have hb2 : Below w.heap.size w wr.drew := ⟨hb.os, hb.tape, hb.output, hb.size, hb.block⟩
      clear HM HL hS hb
      go_wp2_with fail
      go_still (by kernel_rfl)
      go_wp2
      go_ret2
      exact ⟨⟨a', c', by rw [HBS.out]; rfl, hS2⟩, hb2⟩

end Go.Proofs.YtejbdgkcoajpfaaDoor
