/- buildReduce and buildForeach. Conditions: at most 65536 entries of 2^20 bytes in all, a list. -/
import Derived.Test.YtboekgedfhdaaaaDoorRC
import Derived.Test.YtboekgedfhdaaaaDoorRP
set_option linter.unusedVariables false
namespace Go.Proofs.YtboekgedfhdaaaaDoor
open Go.Shelf Go.RowKit


def redT (nq np ns nu : Nat) (fq fp fs fu : Nat → ByteArray) (s : ByteArray) : List UInt8 := sReduce ++ joinT fq sPipe nq ++ sAs ++ patT s fp np ++ sOpen ++ joinT fs sPipe ns ++ sSemi ++ joinT fu sPipe nu ++ [41]
def forT (nq np ns nu : Nat) (fq fp fs fu : Nat → ByteArray) (s : ByteArray) : List UInt8 := sForeach ++ joinT fq sPipe nq ++ sAs ++ patT s fp np ++ sOpen ++ joinT fs sPipe ns ++ sSemi ++ joinT fu sPipe nu ++ [41]
def forX (nq np ns nu nx : Nat) (fq fp fs fu fx : Nat → ByteArray) (s : ByteArray) : List UInt8 := sForeach ++ joinT fq sPipe nq ++ sAs ++ patT s fp np ++ sOpen ++ joinT fs sPipe ns ++ sSemi ++ joinT fu sPipe nu ++ sSemi ++ joinT fx sPipe nx ++ [41]
theorem patT_len (s : ByteArray) (f : Nat → ByteArray) (n : Nat) (hs : s.size ≤ 1048576) (hn : n ≤ 65536) (ht : tot f n ≤ 1048576) : (patT s f n).length ≤ 2097152 := by
  have h1 := joinT_len f sComma n
  have h2 := Lib.size_eq s
  have h3 : sComma.length = 2 := rfl
  rw [h3] at h1
  unfold patT
  by_cases e : s.size = 0
  · rw [if_pos e]
    by_cases e1 : n = 0
    · rw [if_pos e1]; simp
    · rw [if_neg e1]; simp only [List.length_append, List.length_cons, List.length_nil]; omega
  · rw [if_neg e]; omega
theorem pipeT_len (f : Nat → ByteArray) (n : Nat) (hn : n ≤ 65536) (ht : tot f n ≤ 1048576) : (joinT f sPipe n).length ≤ 2097152 := by
  have h1 := joinT_len f sPipe n
  have h3 : sPipe.length = 3 := rfl
  rw [h3] at h1
  omega

def MkN (F : Nat) (T : List UInt8) (w : World) (e : Ending) (w' : World) : Prop :=
  ∃ q : Nat, e = .returned (.pointer (some ⟨q, 0, none⟩)) ∧ Prints F w' ⟨q, 0, none⟩ (fun _ => T) ∧ Below w.heap.size w w'
set_option maxRecDepth 100000 in
set_option maxHeartbeats 1000000 in
theorem buildReduce_any (aq : Option Addr) (nq cq : Nat) (fq : Nat → ByteArray) (s : ByteArray) (ap : Option Addr) (np cp : Nat) (fp : Nat → ByteArray) (ay : Option Addr) (ny cy : Nat) (fy : Nat → ByteArray) (au : Option Addr) (nu cu : Nat) (fu : Nat → ByteArray) (w : World) (mq : nq ≤ 65536) (tq : tot fq nq ≤ 1048576) (hq : StrIn w aq nq cq fq) (mp : np ≤ 65536) (tp : tot fp np ≤ 1048576) (hp : StrIn w ap np cp fp) (my : ny ≤ 65536) (ty : tot fy ny ≤ 1048576) (hy : StrIn w ay ny cy fy) (mu : nu ≤ 65536) (tu : tot fu nu ≤ 1048576) (hu : StrIn w au nu cu fu) :
    Calls Tryd.prog 14 #[.slice aq nq cq, .string s, .slice ap np cp, .slice ay ny cy, .slice au nu cu] w (MkN 34 (redT nq np ny nu fq fp fy fu s) w) := by
  go_enter Tryd.func14, Tryd.ntmps14
  go_wp2_with fail
  refine (pipe_any aq nq cq fq _ mq tq hq).mono ?_
  rintro e w1 ⟨q1, rfl, P1, b1⟩
  have hp1 := hp.below b1
  go_wp2_with fail
  refine (patOf_any s ap np cp fp _ mp tp hp1).mono ?_
  rintro e w2 ⟨q2, rfl, P2, b2⟩
  have B2 := b1.trans (b2.mono b1.size)
  have hs2 := hy.below B2
  go_wp2_with fail
  refine (pipe_any ay ny cy fy _ my ty hs2).mono ?_
  rintro e w3 ⟨q3, rfl, P3, b3⟩
  have B3 := B2.trans (b3.mono B2.size)
  have hu3 := hu.below B3
  go_wp2_with fail
  refine (pipe_any au nu cu fu _ mu tu hu3).mono ?_
  rintro e w4 ⟨q4, rfl, P4, b4⟩
  have B4 := B3.trans (b4.mono B3.size)
  have R1 := P1.now.later (b2.trans ((b3.trans (b4.mono b3.size)).mono b2.size))
  have R2 := P2.now.later (b3.trans (b4.mono b3.size))
  have R3 := P3.now.later b4
  have R4 := P4.now
  clear P1 P2 P3 P4 b1 b2 b3 b4 B2 B3 hp1 hs2 hu3
  go_wp2_with fail
  go_ret
  have b5 := below_fresh w4 (.cells #[.pointer (some ⟨q1, 0, none⟩), .pointer (some ⟨q2, 0, none⟩), .pointer (some ⟨q3, 0, none⟩), .pointer (some ⟨q4, 0, none⟩)] 72)
  refine ⟨w4.heap.size, rfl, ?_, B4.trans (b5.mono B4.size)⟩
  exact reduce_writeTo _ w4.heap.size ⟨q1, 0, none⟩ _ _ ⟨q2, 0, none⟩ _ _ ⟨q3, 0, none⟩ _ _ ⟨q4, 0, none⟩ _ _ (by simp) (by simp [go_sem]) (by simp [go_sem]) (by simp [go_sem]) (by simp [go_sem]) (R1.later b5) (fun l hl => pipeF_of _ _ l hl) (R2.later b5) (fun l hl => rfl) (R3.later b5) (fun l hl => pipeF_of _ _ l hl) (R4.later b5) (fun l hl => pipeF_of _ _ l hl)
set_option maxRecDepth 100000 in
set_option maxHeartbeats 1000000 in
theorem buildForeach_bare (aq : Option Addr) (nq cq : Nat) (fq : Nat → ByteArray) (s : ByteArray) (ap : Option Addr) (np cp : Nat) (fp : Nat → ByteArray) (ay : Option Addr) (ny cy : Nat) (fy : Nat → ByteArray) (au : Option Addr) (nu cu : Nat) (fu : Nat → ByteArray) (ax : Option Addr) (nx cx : Nat) (w : World) (mq : nq ≤ 65536) (tq : tot fq nq ≤ 1048576) (hq : StrIn w aq nq cq fq) (mp : np ≤ 65536) (tp : tot fp np ≤ 1048576) (hp : StrIn w ap np cp fp) (my : ny ≤ 65536) (ty : tot fy ny ≤ 1048576) (hy : StrIn w ay ny cy fy) (mu : nu ≤ 65536) (tu : tot fu nu ≤ 1048576) (hu : StrIn w au nu cu fu) :
    Calls Tryd.prog 18 #[.slice aq nq cq, .string s, .slice ap np cp, .slice ay ny cy, .slice au nu cu, .slice ax nx cx, .bool false] w (MkN 36 (forT nq np ny nu fq fp fy fu s) w) := by
  go_enter Tryd.func18, Tryd.ntmps18
  go_wp2_with fail
  refine (pipe_any aq nq cq fq _ mq tq hq).mono ?_
  rintro e w1 ⟨q1, rfl, P1, b1⟩
  have hp1 := hp.below b1
  go_wp2_with fail
  refine (patOf_any s ap np cp fp _ mp tp hp1).mono ?_
  rintro e w2 ⟨q2, rfl, P2, b2⟩
  have B2 := b1.trans (b2.mono b1.size)
  have hs2 := hy.below B2
  go_wp2_with fail
  refine (pipe_any ay ny cy fy _ my ty hs2).mono ?_
  rintro e w3 ⟨q3, rfl, P3, b3⟩
  have B3 := B2.trans (b3.mono B2.size)
  have hu3 := hu.below B3
  go_wp2_with fail
  refine (pipe_any au nu cu fu _ mu tu hu3).mono ?_
  rintro e w4 ⟨q4, rfl, P4, b4⟩
  have B4 := B3.trans (b4.mono B3.size)
  have R1 := P1.now.later (b2.trans ((b3.trans (b4.mono b3.size)).mono b2.size))
  have R2 := P2.now.later (b3.trans (b4.mono b3.size))
  have R3 := P3.now.later b4
  have R4 := P4.now
  clear P1 P2 P3 P4 b1 b2 b3 b4 B2 B3 hp1 hs2 hu3
  go_wp2_with fail
  go_ret
  have b5 := below_fresh w4 (.cells #[.pointer (some ⟨q1, 0, none⟩), .pointer (some ⟨q2, 0, none⟩), .pointer (some ⟨q3, 0, none⟩), .pointer (some ⟨q4, 0, none⟩), .pointer none] 83)
  refine ⟨w4.heap.size, rfl, ?_, B4.trans (b5.mono B4.size)⟩
  exact foreach_bare _ w4.heap.size ⟨q1, 0, none⟩ _ _ ⟨q2, 0, none⟩ _ _ ⟨q3, 0, none⟩ _ _ ⟨q4, 0, none⟩ _ _ (by simp) (by simp [go_sem]) (by simp [go_sem]) (by simp [go_sem]) (by simp [go_sem]) (by simp [go_sem]) (R1.later b5) (fun l hl => pipeF_of _ _ l hl) (R2.later b5) (fun l hl => rfl) (R3.later b5) (fun l hl => pipeF_of _ _ l hl) (R4.later b5) (fun l hl => pipeF_of _ _ l hl)
set_option maxRecDepth 100000 in
set_option maxHeartbeats 1000000 in
theorem buildForeach_ext (aq : Option Addr) (nq cq : Nat) (fq : Nat → ByteArray) (s : ByteArray) (ap : Option Addr) (np cp : Nat) (fp : Nat → ByteArray) (ay : Option Addr) (ny cy : Nat) (fy : Nat → ByteArray) (au : Option Addr) (nu cu : Nat) (fu : Nat → ByteArray) (ax : Option Addr) (nx cx : Nat) (fx : Nat → ByteArray) (w : World) (mq : nq ≤ 65536) (tq : tot fq nq ≤ 1048576) (hq : StrIn w aq nq cq fq) (mp : np ≤ 65536) (tp : tot fp np ≤ 1048576) (hp : StrIn w ap np cp fp) (my : ny ≤ 65536) (ty : tot fy ny ≤ 1048576) (hy : StrIn w ay ny cy fy) (mu : nu ≤ 65536) (tu : tot fu nu ≤ 1048576) (hu : StrIn w au nu cu fu) (mx : nx ≤ 65536) (tx : tot fx nx ≤ 1048576) (hx : StrIn w ax nx cx fx) :
    Calls Tryd.prog 18 #[.slice aq nq cq, .string s, .slice ap np cp, .slice ay ny cy, .slice au nu cu, .slice ax nx cx, .bool true] w (MkN 36 (forX nq np ny nu nx fq fp fy fu fx s) w) := by
  go_enter Tryd.func18, Tryd.ntmps18
  go_wp2_with fail
  refine (pipe_any aq nq cq fq _ mq tq hq).mono ?_
  rintro e w1 ⟨q1, rfl, P1, b1⟩
  have hp1 := hp.below b1
  go_wp2_with fail
  refine (patOf_any s ap np cp fp _ mp tp hp1).mono ?_
  rintro e w2 ⟨q2, rfl, P2, b2⟩
  have B2 := b1.trans (b2.mono b1.size)
  have hs2 := hy.below B2
  go_wp2_with fail
  refine (pipe_any ay ny cy fy _ my ty hs2).mono ?_
  rintro e w3 ⟨q3, rfl, P3, b3⟩
  have B3 := B2.trans (b3.mono B2.size)
  have hu3 := hu.below B3
  go_wp2_with fail
  refine (pipe_any au nu cu fu _ mu tu hu3).mono ?_
  rintro e w4 ⟨q4, rfl, P4, b4⟩
  have B4 := B3.trans (b4.mono B3.size)
  have R1 := P1.now.later (b2.trans ((b3.trans (b4.mono b3.size)).mono b2.size))
  have R2 := P2.now.later (b3.trans (b4.mono b3.size))
  have R3 := P3.now.later b4
  have R4 := P4.now
  clear P1 P2 P3 P4 b1 b2 b3 b4 B2 B3 hp1 hs2 hu3
  go_wp2_with fail
  have b5 := below_fresh w4 (.cells #[.pointer (some ⟨q1, 0, none⟩), .pointer (some ⟨q2, 0, none⟩), .pointer (some ⟨q3, 0, none⟩), .pointer (some ⟨q4, 0, none⟩), .pointer none] 83)
  have B5 := B4.trans (b5.mono B4.size)
  refine (pipe_any ax nx cx fx _ mx tx (hx.below B5)).mono ?_
  rintro e w6 ⟨q5, rfl, P5, b6⟩
  have z6 : w4.heap.size + 1 ≤ w6.heap.size := by simpa using b6.size
  have e0 : w6.cell? ⟨w4.heap.size, 0, none⟩ = some (.pointer (some ⟨q1, 0, none⟩)) := (b6.cell (p := ⟨w4.heap.size, 0, none⟩) (by simp)).trans (by simp [go_sem])
  have e1 : w6.cell? ⟨w4.heap.size, 1, none⟩ = some (.pointer (some ⟨q2, 0, none⟩)) := (b6.cell (p := ⟨w4.heap.size, 1, none⟩) (by simp)).trans (by simp [go_sem])
  have e2 : w6.cell? ⟨w4.heap.size, 2, none⟩ = some (.pointer (some ⟨q3, 0, none⟩)) := (b6.cell (p := ⟨w4.heap.size, 2, none⟩) (by simp)).trans (by simp [go_sem])
  have e3 : w6.cell? ⟨w4.heap.size, 3, none⟩ = some (.pointer (some ⟨q4, 0, none⟩)) := (b6.cell (p := ⟨w4.heap.size, 3, none⟩) (by simp)).trans (by simp [go_sem])
  have e4 : w6.cell? ⟨w4.heap.size, 4, none⟩ = some (.pointer none) := (b6.cell (p := ⟨w4.heap.size, 4, none⟩) (by simp)).trans (by simp [go_sem])
  have f4 : w6.frozen? ⟨w4.heap.size, 4, none⟩ = false := (b6.frozen (p := ⟨w4.heap.size, 4, none⟩) (by simp)).trans (by simp [go_sem])
  go_wp2_with fail
  go_ret
  have b46 : Below w4.heap.size w4 w6 := b5.trans (b6.mono (by simp))
  have b47 := b46.setCell (p := ⟨w4.heap.size, 4, none⟩) (Nat.le_refl _) (.pointer (some ⟨q5, 0, none⟩))
  refine ⟨w4.heap.size, rfl, ?_, B4.trans (b47.mono B4.size)⟩
  have zz := b47.size
  have other : ∀ o : Nat, o ≠ 4 → (w6.setCell ⟨w4.heap.size, 4, none⟩ (.pointer (some ⟨q5, 0, none⟩))).cell? ⟨w4.heap.size, o, none⟩ = w6.cell? ⟨w4.heap.size, o, none⟩ := fun o ho => set_other _ _ _ _ (by intro e; simp at e; done)
  have zs := ((Below.refl 0 w6).setCell (p := ⟨w4.heap.size, 4, none⟩) (Nat.zero_le _) (.pointer (some ⟨q5, 0, none⟩))).size
  refine foreach_ext _ w4.heap.size ⟨q1, 0, none⟩ _ _ ⟨q2, 0, none⟩ _ _ ⟨q3, 0, none⟩ _ _ ⟨q4, 0, none⟩ _ _ ⟨q5, 0, none⟩ _ _ (by omega) ((other 0 (by decide)).trans e0) ((other 1 (by decide)).trans e1) ((other 2 (by decide)).trans e2) ((other 3 (by decide)).trans e3) (set_same _ _ _ _ e4) (R1.later b47) (fun l hl => pipeF_of _ _ l hl) (R2.later b47) (fun l hl => rfl) (R3.later b47) (fun l hl => pipeF_of _ _ l hl) (R4.later b47) (fun l hl => pipeF_of _ _ l hl) (P5 _ ((FromOn.refl _ _).setCell (by simp) _)) (fun l hl => pipeF_of _ _ l hl)
end Go.Proofs.YtboekgedfhdaaaaDoor
