/- The texts of an elif clause and of a try over a binary query; the printing contracts with their text named. Condition: the text stays below 2^40 bytes. -/
import Derived.Test.YtejbdgkcoajpfaaDoorTryT
set_option linter.unusedVariables false
namespace Go.Proofs.YtejbdgkcoajpfaaDoor
open Go.Shelf Go.RowKit

theorem gap_blank (x : List UInt8) : gap (x ++ [32]) = [] := by simp [gap, gapB]
def binT (a c op : Int) (s t : ByteArray) : List UInt8 := smallT a s ++ opGap (op % 24 + 1) ++ opL (op % 24 + 1) ++ [32] ++ smallT c t
theorem bin_text (a c op : Int) (s t : ByteArray) (l : List UInt8) (h : gap l = []) : fBin (op % 24 + 1) (smallF a s) (smallF c t) l = binT a c op s t := by
  unfold fBin binT
  rw [smallF_of a s l h, smallF_of c t _ (gap_blank _)]
theorem opGap_len (k : Int) : (opGap k).length ≤ 1 := by unfold opGap; exact ite_len (by decide) (by decide)
theorem binT_len (a c op : Int) (s t : ByteArray) : (binT a c op s t).length ≤ s.size + t.size + 7 := by
  have := smallT_len a s
  have := smallT_len c t
  have := opGap_len (op % 24 + 1)
  have := opL_len (op % 24 + 1)
  unfold binT
  simp only [List.length_append, List.length_cons, List.length_nil]
  omega
def elifBin (a c op d : Int) (s t u : ByteArray) : List UInt8 := sElif ++ binT a c op s t ++ sThen ++ smallT d u
theorem elif_bin_text (a c op d : Int) (s t u : ByteArray) (l : List UInt8) : fElif (fBin (op % 24 + 1) (smallF a s) (smallF c t)) (smallF d u) l = elifBin a c op d s t u := by
  unfold fElif elifBin
  rw [bin_text a c op s t _ (gap_elif l), smallF_of d u _ (gap_then _)]
theorem elifBin_len (a c op d : Int) (s t u : ByteArray) : (elifBin a c op d s t u).length ≤ s.size + t.size + u.size + 19 := by
  have := binT_len a c op s t
  have := smallT_len d u
  have : sElif.length = 5 := rfl
  have : sThen.length = 6 := rfl
  unfold elifBin
  simp only [List.length_append]
  omega
def tryBin (a c op : Int) (s t : ByteArray) : List UInt8 := sTry ++ binT a c op s t
def trycBin (a c op d : Int) (s t u : ByteArray) : List UInt8 := sTry ++ binT a c op s t ++ sCatch ++ smallT d u
theorem try_bin_text (a c op : Int) (s t : ByteArray) (l : List UInt8) : fTry (fBin (op % 24 + 1) (smallF a s) (smallF c t)) l = tryBin a c op s t := by
  unfold fTry tryBin
  rw [bin_text a c op s t _ (gap_try l)]
theorem tryc_bin_text (a c op d : Int) (s t u : ByteArray) (l : List UInt8) : fTryCatch (fBin (op % 24 + 1) (smallF a s) (smallF c t)) (smallF d u) l = trycBin a c op d s t u := by
  unfold fTryCatch trycBin
  rw [bin_text a c op s t _ (gap_try l), smallF_of d u _ (gap_catch _)]
theorem tryBin_len (a c op : Int) (s t : ByteArray) : (tryBin a c op s t).length ≤ s.size + t.size + 11 := by
  have := binT_len a c op s t
  have : sTry.length = 4 := rfl
  unfold tryBin
  simp only [List.length_append]
  omega
theorem trycBin_len (a c op d : Int) (s t u : ByteArray) : (trycBin a c op d s t u).length ≤ s.size + t.size + u.size + 19 := by
  have := binT_len a c op s t
  have := smallT_len d u
  have : sTry.length = 4 := rfl
  have : sCatch.length = 7 := rfl
  unfold trycBin
  simp only [List.length_append]
  omega

theorem ifelif_String_of (w0 : World) (a : Addr) (f : List UInt8 → List UInt8) (h : Prints 47 w0 a f) (T : List UInt8) (hT : f [] = T) (w : World) (hbw : Below w0.heap.size w0 w) (hlen : T.length ≤ 1099511627776) :
    Calls Tryd.prog 23 #[.pointer (some a)] w fun e w' => e = .returned (.string ⟨T.toArray⟩) ∧ Below w.heap.size w w' := by
  subst hT; exact ifelif_String w0 a f h w hbw hlen
theorem ifelif_ZZ_of (w0 : World) (a : Addr) (f : List UInt8 → List UInt8) (h : Prints 47 w0 a f) (p : ByteArray) (T : List UInt8) (hT : f p.data.toList = T) (w : World) (hbw : Below w0.heap.size w0 w) (hlen : p.data.toList.length + T.length ≤ 1099511627776) :
    Calls Tryd.prog 26 #[.pointer (some a), .string p] w fun e w' => e = .returned (.string ⟨(p.data.toList ++ T).toArray⟩) ∧ Below w.heap.size w w' := by
  subst hT; exact ifelif_ZZ w0 a f h p w hbw hlen
theorem ifelif_ZZ_nil (w0 : World) (a : Addr) (f : List UInt8 → List UInt8) (h : Prints 47 w0 a f) (T : List UInt8) (hT : f [] = T) (w : World) (hbw : Below w0.heap.size w0 w) (hlen : T.length ≤ 1099511627776) :
    Calls Tryd.prog 26 #[.pointer (some a), .string ⟨#[]⟩] w fun e w' => e = .returned (.string ⟨T.toArray⟩) ∧ Below w.heap.size w w' := by
  subst hT; exact ifelif_ZZ w0 a f h ⟨#[]⟩ w hbw (by simpa using hlen)
theorem try_String_of (w0 : World) (a : Addr) (f : List UInt8 → List UInt8) (h : Prints 48 w0 a f) (T : List UInt8) (hT : f [] = T) (w : World) (hbw : Below w0.heap.size w0 w) (hlen : T.length ≤ 1099511627776) :
    Calls Tryd.prog 28 #[.pointer (some a)] w fun e w' => e = .returned (.string ⟨T.toArray⟩) ∧ Below w.heap.size w w' := by
  subst hT; exact try_String w0 a f h w hbw hlen
theorem try_ZZ_of (w0 : World) (a : Addr) (f : List UInt8 → List UInt8) (h : Prints 48 w0 a f) (p : ByteArray) (T : List UInt8) (hT : f p.data.toList = T) (w : World) (hbw : Below w0.heap.size w0 w) (hlen : p.data.toList.length + T.length ≤ 1099511627776) :
    Calls Tryd.prog 32 #[.pointer (some a), .string p] w fun e w' => e = .returned (.string ⟨(p.data.toList ++ T).toArray⟩) ∧ Below w.heap.size w w' := by
  subst hT; exact try_ZZ w0 a f h p w hbw hlen
theorem try_ZZ_nil (w0 : World) (a : Addr) (f : List UInt8 → List UInt8) (h : Prints 48 w0 a f) (T : List UInt8) (hT : f [] = T) (w : World) (hbw : Below w0.heap.size w0 w) (hlen : T.length ≤ 1099511627776) :
    Calls Tryd.prog 32 #[.pointer (some a), .string ⟨#[]⟩] w fun e w' => e = .returned (.string ⟨T.toArray⟩) ∧ Below w.heap.size w w' := by
  subst hT; exact try_ZZ w0 a f h ⟨#[]⟩ w hbw (by simpa using hlen)
end Go.Proofs.YtejbdgkcoajpfaaDoor
