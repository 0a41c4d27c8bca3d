/-
  THE SHELL OF A PROOF OF 'Rows.FnCompareBoolsAgreesWithNamesSaid' ('example.com/epochwise/epochwise/zzlaws_internal_schema_b1.FnCompareBoolsAgreesWithNames'), WRITTEN BY PROGRAM (proof-skeleton.mjs) off the guide's own print for that function. Not trusted: Lean checks it.
  ALL ELSE IS THE GUIDE's TEMPLATE (howto/template/XProofs.lean) at this function's number and types: leave it.
-/
import Derived.Test.Qxb6617189aRows
import Derived.WalkKit
import Derived.ProofKit
import Derived.OpenShut
import Derived.ShutString
import Derived.Test.Qxb6617189aBools
import Derived.Test.Qxb6617189aBytes
namespace Go.Proofs.Qxb6617189a.fnCompareBoolsAgreesWithNames
open Go.ChangeShapes Go.WideShapes Go.ChangeAt Go.RowKit
open Go.ChangeMaps (open_string shut_string)
set_option linter.unusedVariables false      -- a walk need not use every 'w<i>' (that an integer argument fits its kind)

theorem own : ownKnob Try.prog.godebug = none := by kernel_rfl

/-! ### THE PLAIN LAW: no Go in sight -/
theorem names_cmp (a b : Bool) : cmpL (nameOf a).toList (nameOf b).toList = cmpB a b := by
  cases a <;> cases b <;> (simp only [ByteArray.toList_eq]; rfl)
theorem names_size (a : Bool) : (nameOf a).size ≤ 1048576 := by cases a <;> decide
theorem cmpB_zero (a b : Bool) : (cmpB a b == 0) = (a == b) := by cases a <;> cases b <;> rfl

/-! ### STEP 1: THE WALK: the Go text returns true. 'Below w.heap.size w w'': nothing that was there has turned (in place of the shell's 'Grown': a block is made and filled in a loop). Part the cases AHEAD of 'go_enter' where a test parts the walk; take each callee by a contract of your own. -/
theorem walk (a0 : Bool) (a1 : Bool) (w : World) :
    Calls Try.prog 8 #[.bool a0, .bool a1] w fun e w' => e = .returned (.bool true) ∧ Below w.heap.size w w' := by
  have hn := names_cmp a0 a1
  have hz := cmpB_zero a0 a1
  go_enter Try.func8, Try.ntmps8
  go_wp2_with (first | (go_at_call 20; refine (zzcmpB_any _ _ _).mono ?_; rintro e w' ⟨rfl, rfl⟩) | (go_at_call 22; refine (name_any _ _).mono ?_; rintro e w' ⟨rfl, rfl⟩) | (go_at_call 16; refine (bytesOf_any _ _ (names_size _)).mono ?_; rintro e w' ⟨rfl, hrow, hbel⟩) | (go_at_call 15; refine (zzcmpS_any _ _ _ _ hrow).mono ?_; rintro e w' ⟨rfl, rfl⟩))
  go_ret
  exact ⟨rfl, hbel⟩

/-! ### THE ROW's STEP: WRITTEN OUT: LEAVE IT -/
set_option maxRecDepth 100000 in
theorem lifted (os : Os) (started : os.Started) (H : Type) (enc : TypeId × Value → H) :
    ReturnsInHanded {} Try.checked os 8 .any (Rows.fnCompareBoolsAgreesWithNamesSpec.pre6 enc Try.prog Try.f8 Rows.fnCompareBoolsAgreesWithNamesRow.domain false) (Rows.fnCompareBoolsAgreesWithNamesSpec.post enc Try.prog Try.f8 false true false false) := by
  refine returnsInHanded_of_change (C := Try.checked) own started (by kernel_rfl) Try.func8
    (ChangeSpec.witness6 (enc := enc) (C := Try.checked) false ⟨#[], #[.bool false, .bool false], []⟩ 8 (by kernel_rfl) (by kernel_rfl) (by kernel_rfl) (by kernel_rfl)) ?_
  intro W base args ds gs before hval0 hW hcnd _
  have hval : ∀ (j : Nat) t v, Try.f8.params[j]? = some t → args[j]? = some v → Value.okWide Try.prog W .any base t v := hval0
  have hW' := hW
  obtain ⟨p, q, hA0, hV, rfl, hfz, hnd⟩ := hW
  have hA : DataW.TrodAll enc Try.prog W 0 (fun _ => true) true Try.f8.params.toList args.toList ds p := hA0
  rw [Try.params8] at hA hval
  obtain ⟨v0, vs0, d0, ds0, p0, q0, hargs, rfl, rfl, h0, r0⟩ := trodAll_cons hA
  obtain ⟨v1, vs1, d1, ds1, p1, q1, rfl, rfl, rfl, h1, r1⟩ := trodAll_cons r0
  obtain ⟨rfl, rfl, rfl⟩ := trodAll_nil r1
  obtain rfl : args = #[v0, v1] := by cases args; simp_all
  obtain ⟨rfl, rfl⟩ := trodVars_none hV
  obtain ⟨a0, rfl, rfl, rfl⟩ := open_bool Try.underlying4 (hval 0 4 v0 rfl rfl) h0
  obtain ⟨a1, rfl, rfl, rfl⟩ := open_bool Try.underlying4 (hval 1 4 v1 rfl rfl) h1
  clear hA0 hval0
  refine (walk a0 a1 W).mono fun e W' ⟨he, bel⟩ => ?_
  subst he
  exact ⟨_, rfl, _, _, _, [], _, [], hW', trodAll_mk1 (shut_bool Try.underlying4 _), (trodAll_cons_mk (shut_bool Try.underlying4 _) (trodAll_cons_mk (shut_bool Try.underlying4 _) trodAll_mk0)), rfl, bel.frame _, fun h => by cases h⟩

theorem over : Rows.fnCompareBoolsAgreesWithNamesRow.holds Try.pinned (OpenSpec.ofChange Rows.fnCompareBoolsAgreesWithNamesSpec) :=
  OpenClaim.holds_of_wide 8 Try.f8 rfl rfl rfl rfl rfl rfl rfl ⟨rfl, rfl, rfl, rfl, rfl⟩ rfl rfl rfl rfl rfl (by kernel_rfl) Try.func8 (by kernel_rfl)
    (of_decide_eq_true (by kernel_rfl)) (by unfold Func.isWrapper; first | (rw [if_pos (by decide +kernel)]; kernel_rfl) | (rw [if_neg (by decide +kernel)]; exact ⟨rfl, rfl⟩))
    (fun os started H enc _ => lifted os started H enc)

/-- ████ THE STATEMENT ████ -/
theorem proved : Rows.FnCompareBoolsAgreesWithNamesSaid :=
  over
#print axioms proved
end Go.Proofs.Qxb6617189a.fnCompareBoolsAgreesWithNames
