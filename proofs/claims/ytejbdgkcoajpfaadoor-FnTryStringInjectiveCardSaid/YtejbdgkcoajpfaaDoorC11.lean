/-
  Proved here: called with any arguments, the Go function n001_104.FnTryStringInjective returns true and leaves its arguments as they were; the card ties the two variables of package utf8 that the row lists to the program's text (a pruned copy). No condition.
-/
import Derived.Test.YtejbdgkcoajpfaaDoorCards
import Derived.Test.YtejbdgkcoajpfaaDoorTie
import Derived.Test.YtejbdgkcoajpfaaDoorLaw11
import Derived.Test.YtejbdgkcoajpfaaDoorFct
import Derived.WalkKit
import Derived.ProofKit
import Derived.OpenShut
import Derived.ShutString
import Derived.ChangeOld
import Derived.Below
import Derived.Carry
import Derived.Deep.DeepHandedRow
namespace Go.Proofs.YtejbdgkcoajpfaaDoor.fnTryStringInjective
open Go.ChangeShapes Go.WideShapes Go.ChangeAt Go.RowKit
open Go.ChangeMaps (open_string shut_string)
set_option linter.unusedVariables false

theorem own : ownKnob Tryd.prog.godebug = none := by kernel_rfl

theorem walk (w : World) (a0 : ByteArray) (w0 : a0.size ≤ maxLen) (a1 : Bool) (a2 : ByteArray) (w2 : a2.size ≤ maxLen) (a3 : ByteArray) (w3 : a3.size ≤ maxLen) (a4 : Bool) (a5 : ByteArray) (w5 : a5.size ≤ maxLen) :
    Calls Tryd.prog 11 #[.string a0, .bool a1, .string a2, .string a3, .bool a4, .string a5] w fun e w' => e = .returned (.bool true) ∧ Below w.heap.size w w' := by
  exact law11 a0 a1 a2 a3 a4 a5 w  w0 w2 w3 w5

set_option maxRecDepth 100000 in
theorem contract (H : Type) (enc : TypeId × Value → H) (W : World) (base : Nat) (args : Array Value) (ds gs : List (DataW H)) (before : List MemPlace)
    (hval0 : ∀ (j : Nat) t v, Tryd.f11.params[j]? = some t → args[j]? = some v → Value.okWide Tryd.prog W .any base t v)
    (hW : DataW.Whole enc Tryd.prog Tryd.f11.params.toList Rows.fnTryStringInjectiveSpec.vars false W args.toList ds gs before) (hL : laidMetH Tryd.prog Rows.fnTryStringInjectiveRow.laid W) :
    Calls Tryd.prog 11 args W fun e W' => ∃ v, e = .returned v ∧ Rows.fnTryStringInjectiveSpec.post enc Tryd.prog Tryd.f11 false true false false W args v W' := by
  have hval := hval0
  have hW' := hW
  obtain ⟨p, q, hA0, hV, rfl, hfz, hnd⟩ := hW
  have hA : DataW.TrodAll enc Tryd.prog W 0 (fun _ => true) true Tryd.f11.params.toList args.toList ds p := hA0
  rw [Tryd.params11] at hA hval
  obtain ⟨v0, vs0, d0, ds0, p0, q0, hargs, rfl, rfl, h0, r0⟩ := trodAll_cons hA
  obtain ⟨v1, vs1, d1, ds1, p1, q1, rfl, rfl, rfl, h1, r1⟩ := trodAll_cons r0
  obtain ⟨v2, vs2, d2, ds2, p2, q2, rfl, rfl, rfl, h2, r2⟩ := trodAll_cons r1
  obtain ⟨v3, vs3, d3, ds3, p3, q3, rfl, rfl, rfl, h3, r3⟩ := trodAll_cons r2
  obtain ⟨v4, vs4, d4, ds4, p4, q4, rfl, rfl, rfl, h4, r4⟩ := trodAll_cons r3
  obtain ⟨v5, vs5, d5, ds5, p5, q5, rfl, rfl, rfl, h5, r5⟩ := trodAll_cons r4
  obtain ⟨rfl, rfl, rfl⟩ := trodAll_nil r5
  obtain rfl : args = #[v0, v1, v2, v3, v4, v5] := by cases args; simp_all
  obtain ⟨rfl, rfl⟩ := trodVars_none hV
  obtain ⟨a0, rfl, rfl, rfl, w0⟩ := open_string Tryd.underlying9 (hval 0 9 v0 rfl rfl) h0
  obtain ⟨a1, rfl, rfl, rfl⟩ := open_bool Tryd.underlying4 (hval 1 4 v1 rfl rfl) h1
  obtain ⟨a2, rfl, rfl, rfl, w2⟩ := open_string Tryd.underlying9 (hval 2 9 v2 rfl rfl) h2
  obtain ⟨a3, rfl, rfl, rfl, w3⟩ := open_string Tryd.underlying9 (hval 3 9 v3 rfl rfl) h3
  obtain ⟨a4, rfl, rfl, rfl⟩ := open_bool Tryd.underlying4 (hval 4 4 v4 rfl rfl) h4
  obtain ⟨a5, rfl, rfl, rfl, w5⟩ := open_string Tryd.underlying9 (hval 5 9 v5 rfl rfl) h5
  clear hA0 hval0
  refine (walk W a0 w0 a1 a2 w2 a3 w3 a4 a5 w5).mono fun e W' ⟨he, bel⟩ => ?_
  subst he
  exact ⟨_, rfl, _, _, _, [], _, [], hW', trodAll_mk1 (shut_bool Tryd.underlying4 _), (trodAll_cons_mk (shut_string Tryd.underlying9 w0) (trodAll_cons_mk (shut_bool Tryd.underlying4 a1) (trodAll_cons_mk (shut_string Tryd.underlying9 w2) (trodAll_cons_mk (shut_string Tryd.underlying9 w3) (trodAll_cons_mk (shut_bool Tryd.underlying4 a4) (trodAll_cons_mk (shut_string Tryd.underlying9 w5) trodAll_mk0)))))), rfl, bel.frame _, fun h => by cases h⟩

/-- A block with other cells. -/
def laidCells (xs : Array Value) : Obj → Obj
  | .cells _ t frozen => .cells xs t frozen
  | o => o
/-- A world for the witness: the settled one, the two listed tables holding what their initialisers lay. -/
noncomputable def laidWorld (os : Os) : World :=
  { World.holding Tryd.prog os ⟨#[], #[], []⟩ with heap := ((World.holding Tryd.prog os ⟨#[], #[], []⟩).heap.modify 0 (laidCells ((Go.Pinned.utf8FirstZ.map fun (n : Nat) => Value.int .u8 (n : Int)).toArray))).modify 1 (laidCells #[.int .u8 128, .int .u8 191, .int .u8 160, .int .u8 191, .int .u8 128, .int .u8 159, .int .u8 144, .int .u8 191, .int .u8 128, .int .u8 143, .int .u8 0, .int .u8 0, .int .u8 0, .int .u8 0, .int .u8 0, .int .u8 0, .int .u8 0, .int .u8 0, .int .u8 0, .int .u8 0, .int .u8 0, .int .u8 0, .int .u8 0, .int .u8 0, .int .u8 0, .int .u8 0, .int .u8 0, .int .u8 0, .int .u8 0, .int .u8 0, .int .u8 0, .int .u8 0]) }
theorem laid_met (os : Os) : laidMet Tryd.prog Rows.fnTryStringInjectiveRow.laid ((laidWorld os).forCall (fun _ _ => 0) ⟨#[], #[.string ByteArray.empty, .bool false, .string ByteArray.empty, .string ByteArray.empty, .bool false, .string ByteArray.empty], []⟩).memory :=
  laidMet_of_run' 8 (by kernel_rfl) (by kernel_rfl)
theorem reads (os : Os) {H : Type} (enc : TypeId × Value → H) : ∃ places, DataW.whole enc Tryd.prog ((laidWorld os).forCall (fun _ _ => 0) ⟨#[], #[.string ByteArray.empty, .bool false, .string ByteArray.empty, .string ByteArray.empty, .bool false, .string ByteArray.empty], []⟩).memory Tryd.f11.params.toList Rows.fnTryStringInjectiveSpec.vars false (#[.string ByteArray.empty, .bool false, .string ByteArray.empty, .string ByteArray.empty, .bool false, .string ByteArray.empty] : Array Value).toList 8 = some ([.lit (.string []), .lit (.bool false), .lit (.string []), .lit (.string []), .lit (.bool false), .lit (.string [])], [], places) :=
  ⟨[], by kernel_rfl⟩

set_option maxRecDepth 100000 in
theorem lifted (os : Os) (started : os.Started) (H : Type) (enc : TypeId × Value → H) (F : Stop.Interp) :
    ReturnsInHanded {} Tryd.checked os 11 .any ((OpenSpec.ofChange Rows.fnTryStringInjectiveSpec).preRow enc Tryd.prog Tryd.f11 Rows.fnTryStringInjectiveRow.domain false Rows.fnTryStringInjectiveRow.laid) (((OpenSpec.ofChange Rows.fnTryStringInjectiveSpec).at F).post enc Tryd.prog Tryd.f11 false true false false) := by
  obtain ⟨places, hx⟩ := reads os enc
  refine returnsInHanded_of_row (C := Tryd.checked) (s := OpenSpec.ofChange Rows.fnTryStringInjectiveSpec) own started (by kernel_rfl) Tryd.func11
    (witness_row_at (enc := enc) (C := Tryd.checked) false (laidWorld os) #[.string ByteArray.empty, .bool false, .string ByteArray.empty, .string ByteArray.empty, .bool false, .string ByteArray.empty] rfl (by kernel_rfl) (by kernel_rfl) (by kernel_rfl)
      (OpenSpec.preRow_of_cond 8 hx (by kernel_rfl) (fun k hk => by cases hk) (by kernel_rfl) (laid_met os))) ?_
  intro W base args ds gs before hval hW _ _ _ hL _ _
  exact contract H enc W base args ds gs before hval hW hL

theorem fIn : (Rows.fnTryStringInjectiveRow.inPlace == Tryd.prog.inPlace 11) = true := by kernel_rfl
theorem fUn : (Rows.fnTryStringInjectiveRow.unfollowed == Tryd.prog.unfollowed 11) = true := by kernel_rfl
theorem fRe : (Rows.fnTryStringInjectiveRow.recurses == Tryd.prog.recurses 11) = true := by kernel_rfl
theorem fNa : (Rows.fnTryStringInjectiveRow.named == Tryd.prog.varsNamed 11) = true := by kernel_rfl
theorem facts : joinedFacts Tryd.prog 11 Tryd.f11 (OpenSpec.ofChange Rows.fnTryStringInjectiveSpec).bare Rows.fnTryStringInjectiveRow = true := by
  unfold joinedFacts
  rw [fIn, fUn, fRe, fNa, pEnter, pLift, pMake, pLaid, pMaps]
  kernel_rfl
theorem said : Rows.FnTryStringInjectiveSaid :=
  OpenClaim.holds_of_cond 11 Tryd.f11 rfl rfl rfl rfl rfl rfl rfl ⟨rfl, rfl, rfl, rfl, rfl⟩ rfl rfl rfl rfl rfl (by kernel_rfl) Tryd.func11 facts
    (of_decide_eq_true (by kernel_rfl)) (by unfold Func.isWrapper; first | (rw [if_pos (by decide +kernel)]; kernel_rfl) | (rw [if_neg (by decide +kernel)]; exact ⟨rfl, rfl⟩))
    (fun os started H enc _ F => by rw [OpenClaim.pre_eq_preRow]; exact lifted os started H enc F)

/-- No parameter wants a stand-in; the program's own looks are off. -/
theorem plain (f : FuncId) (fn : Func) (hf : Tryd.pinned.checked.prog.funcNamed Rows.fnTryStringInjectiveRow.func = some f) (hfn : Tryd.pinned.checked.prog.funcs[f]? = some fn) :
    false = Tryd.pinned.checked.prog.looks [] ∧ ∀ (j : Nat) t, fn.params[j]? = some t → Tryd.pinned.checked.prog.wantsStandIn t = false := by
  obtain rfl : f = 11 := Option.some.inj ((show Tryd.prog.funcNamed Rows.fnTryStringInjectiveRow.func = some 11 by kernel_rfl).symm.trans hf) |>.symm
  obtain rfl : fn = Tryd.f11 := (Option.some.inj (Tryd.func11.symm.trans hfn)).symm
  refine ⟨by kernel_rfl, fun j t ht => ?_⟩
  rw [Tryd.params11] at ht
  have hm := Array.mem_of_getElem? ht
  have hq : t = 4 ∨ t = 9 := by simpa [or_assoc, or_comm, or_left_comm] using hm
  rcases hq with rfl | rfl
  · exact (show Tryd.prog.wantsStandIn 4 = false by kernel_rfl)
  · exact (show Tryd.prog.wantsStandIn 9 = false by kernel_rfl)

theorem card : Rows.FnTryStringInjectiveCardSaid :=
  Claim7.holds_tied_plain_at .later [] _ _ _ _ said (fun _ h => by cases h) (by kernel_rfl) (fun _ h => by cases h) fnTryStringInjective_row_tie rfl ⟨rfl, rfl⟩ (by kernel_rfl) rfl plain (by kernel_rfl)
#print axioms card
end Go.Proofs.YtejbdgkcoajpfaaDoor.fnTryStringInjective
