/- What the laws share: joins as the laws write them; lengths. Conditions: those in each statement. -/
import Derived.Test.YtboekgedfhdaaaaDoorRT
import Derived.Test.YtboekgedfhdaaaaDoorRZ
set_option linter.unusedVariables false
namespace Go.Proofs.YtboekgedfhdaaaaDoor
open Go.Shelf Go.RowKit


theorem ret_bool {a b : Bool} (h : a = b) : Ending.returned (.bool a) = .returned (.bool b) := by rw [h]
theorem toList_app (a b : ByteArray) : (a ++ b).toList = a.toList ++ b.toList := by
  simp only [ByteArray.toList_eq, ByteArray.data_append, Array.toList_append]
def Joined (w : World) (T : List UInt8) (e : Ending) (w' : World) : Prop := ∃ J : ByteArray, e = .returned (.string J) ∧ J.toList = T ∧ J.size ≤ 2097152 ∧ Below w.heap.size w w'
theorem join_pipe (a : Option Addr) (n c : Nat) (f : Nat → ByteArray) (w : World) (hn : n ≤ 65536) (ht : tot f n ≤ 1048576) (h : StrIn w a n c f) :
    Calls Tryd.prog 22 #[.slice a n c, .string ⟨#[32, 124, 32]⟩] w (Joined w (joinT f sPipe n)) := by
  refine (joinWith_any a n c f ⟨#[32, 124, 32]⟩ w hn ht (by decide) h).mono ?_
  rintro e w' ⟨rfl, hb⟩
  have e1 := joinB_eq f ⟨#[32, 124, 32]⟩ n
  refine ⟨_, rfl, by rw [ByteArray.toList_eq, e1]; rfl, ?_, hb⟩
  rw [Lib.size_eq, e1]
  exact pipeT_len f n hn ht
def PatText (w : World) (T : List UInt8) (e : Ending) (w' : World) : Prop := ∃ J : ByteArray, e = .returned (.string J) ∧ J.toList = T ∧ J.size ≤ 2097152 ∧ Below w.heap.size w w'
theorem pat_text (s : ByteArray) (a : Option Addr) (n c : Nat) (f : Nat → ByteArray) (w : World) (hs : s.size ≤ 1048576) (hn : n ≤ 65536) (ht : tot f n ≤ 1048576) (h : StrIn w a n c f) :
    Calls Tryd.prog 23 #[.string s, .slice a n c] w (PatText w (patT s f n)) := by
  refine (patternText_any s a n c f w hs hn ht h).mono ?_
  rintro e w' ⟨rfl, hb⟩
  refine ⟨_, rfl, by rw [ByteArray.toList_mk], ?_, hb⟩
  rw [Lib.size_eq]
  exact patT_len s f n hs hn ht
theorem redT_len (nq np ns nu : Nat) (fq fp fs fu : Nat → ByteArray) (s : ByteArray) (hs : s.size ≤ 1048576) (mq : nq ≤ 65536) (tq : tot fq nq ≤ 1048576) (mp : np ≤ 65536) (tp : tot fp np ≤ 1048576) (ms : ns ≤ 65536) (ts : tot fs ns ≤ 1048576) (mu : nu ≤ 65536) (tu : tot fu nu ≤ 1048576) :
    (redT nq np ns nu fq fp fs fu s).length ≤ 10485760 ∧ (forT nq np ns nu fq fp fs fu s).length ≤ 10485760 := by
  have h1 := pipeT_len fq nq mq tq
  have h2 := patT_len s fp np hs mp tp
  have h3 := pipeT_len fs ns ms ts
  have h4 := pipeT_len fu nu mu tu
  have l1 : sReduce.length = 7 := rfl
  have l2 : sForeach.length = 8 := rfl
  have l3 : sAs.length = 4 := rfl
  have l4 : sOpen.length = 2 := rfl
  have l5 : sSemi.length = 2 := rfl
  unfold redT forT
  simp only [List.length_append, List.length_cons, List.length_nil]
  omega
theorem forX_len (nq np ns nu nx : Nat) (fq fp fs fu fx : Nat → ByteArray) (s : ByteArray) (hs : s.size ≤ 1048576) (mq : nq ≤ 65536) (tq : tot fq nq ≤ 1048576) (mp : np ≤ 65536) (tp : tot fp np ≤ 1048576) (ms : ns ≤ 65536) (ts : tot fs ns ≤ 1048576) (mu : nu ≤ 65536) (tu : tot fu nu ≤ 1048576) (mx : nx ≤ 65536) (tx : tot fx nx ≤ 1048576) :
    (forX nq np ns nu nx fq fp fs fu fx s).length ≤ 20971520 := by
  have h1 := pipeT_len fq nq mq tq
  have h2 := patT_len s fp np hs mp tp
  have h3 := pipeT_len fs ns ms ts
  have h4 := pipeT_len fu nu mu tu
  have h5 := pipeT_len fx nx mx tx
  have l2 : sForeach.length = 8 := rfl
  have l3 : sAs.length = 4 := rfl
  have l4 : sOpen.length = 2 := rfl
  have l5 : sSemi.length = 2 := rfl
  unfold forX
  simp only [List.length_append, List.length_cons, List.length_nil]
  omega

def restT (nq np ny nu : Nat) (fq fp fy fu : Nat → ByteArray) (s : ByteArray) : List UInt8 := joinT fq sPipe nq ++ sAs ++ patT s fp np ++ sOpen ++ joinT fy sPipe ny ++ sSemi ++ joinT fu sPipe nu ++ [41]
theorem sizeR (TR R : List UInt8) (h : TR = sReduce ++ R) (hl : TR.length ≤ 10485760) : 7 ≤ (⟨TR.toArray⟩ : ByteArray).size ∧ (⟨TR.toArray⟩ : ByteArray).size ≤ 10485760 := by
  rw [Lib.size_eq]
  refine ⟨?_, by simpa using hl⟩
  rw [h]; simp [sReduce]
theorem headR (TR R : List UInt8) (h : TR = sReduce ++ R) : ((⟨TR.toArray⟩ : ByteArray).extract 0 6).toList = [114, 101, 100, 117, 99, 101] := by
  rw [ByteArray.toList_eq, Lib.extract_data, h]; rfl
theorem tailR (TR R : List UInt8) (h : TR = sReduce ++ R) : ((⟨TR.toArray⟩ : ByteArray).extract 6 (⟨TR.toArray⟩ : ByteArray).size).toList = [32] ++ R := by
  rw [ByteArray.toList_eq, ext_end, h]; rfl
end Go.Proofs.YtboekgedfhdaaaaDoor
