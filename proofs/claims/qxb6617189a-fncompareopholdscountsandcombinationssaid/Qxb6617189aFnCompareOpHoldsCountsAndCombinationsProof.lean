/-
  THE SHELL OF A PROOF OF 'Rows.FnCompareOpHoldsCountsAndCombinationsSaid' ('example.com/epochwise/epochwise/zzlaws_internal_schema_b1.FnCompareOpHoldsCountsAndCombinations'), WRITTEN BY PROGRAM (proof-skeleton.mjs) off the guide's own print for that function. Not trusted: Lean checks it.
  ALL ELSE IS THE GUIDE's TEMPLATE (howto/template/XProofs.lean) at this function's number and types: leave it.
-/
import Derived.Test.Qxb6617189aRows
import Derived.WalkKit
import Derived.ProofKit
import Derived.OpenShut
import Derived.ShutString
import Derived.Test.Qxb6617189aHolds
namespace Go.Proofs.Qxb6617189a.fnCompareOpHoldsCountsAndCombinations
open Go.ChangeShapes Go.WideShapes Go.ChangeAt Go.RowKit
open Go.ChangeMaps (open_string shut_string)
set_option linter.unusedVariables false      -- a walk need not use every 'w<i>' (that an integer argument fits its kind)

theorem own : ownKnob Try.prog.godebug = none := by kernel_rfl

/-! ### THE PLAIN LAW: no Go in sight -/
/-- How many of the first k operators (from -1 on) hold. -/
def cnt (c : Int) (o : Bool) : Nat → Int
  | 0 => 0
  | k + 1 => cnt c o k + if holdsB ((k : Int) - 1) c o = true then 1 else 0
theorem cnt_bd (c : Int) (o : Bool) (k : Nat) : 0 ≤ cnt c o k ∧ cnt c o k ≤ k := by
  induction k with
  | zero => simp [cnt]
  | succ k ih => unfold cnt; split <;> omega
theorem cnt12 (c : Int) (o : Bool) : cnt c o 12 = if o = true then 3 else 1 := by
  cases o
  · simp [cnt, holdsB]
  · rcases Int.lt_trichotomy c 0 with h | h | h
    · simp [cnt, holdsB, h, show ¬ c = 0 by omega, show c ≤ 0 by omega, show ¬ 0 < c by omega, show ¬ 0 ≤ c by omega]
    · subst h; simp [cnt, holdsB]
    · simp [cnt, holdsB, h, show ¬ c = 0 by omega, show ¬ c ≤ 0 by omega, show ¬ c < 0 by omega, show 0 ≤ c by omega]

/-! ### STEP 1: THE WALK: the Go text returns true. 'Grown w w'': the world has at most new blocks (Derived/RowKit3.lean). Part the cases AHEAD of 'go_enter' where a test parts the walk; take each callee by a contract of your own. -/
theorem walk (a0 : Int) (a1 : Bool) (w0 : (Lit.int .i64 a0).wf = true) (w : World) :
    Calls Try.prog 4 #[.int .i64 a0, .bool a1] w fun e w' => e = .returned (.bool true) ∧ Grown w w' := by
  have hc := cnt12 a0 a1
  go_enter Try.func4, Try.ntmps4
  go_wp2_with fail
  go_loop [5, 6] (fun n i => ∃ k : Nat, k ≤ 12 ∧ i = .int .i64 ((k : Int) - 1) ∧ n = .int .i64 (cnt a0 a1 k)) (fun _ i => (11 - intOf i).toNat)
  case atStart => exact ⟨0, by omega, rfl, rfl⟩
  case round =>
    obtain ⟨k, hk, rfl, rfl⟩ := hrel
    have hb := cnt_bd a0 a1 k
    by_cases hlt : k < 12
    · go_wp2_with (go_at_call 9; refine (zzholds_any _ _ _ _).mono ?_; rintro e w' ⟨rfl, rfl⟩)
      all_goals
        go_round
        case rel => exact ⟨k + 1, by omega, by go_num, by rw [cnt]; first | rw [if_pos ‹_›] | (rw [if_neg (by simp [*])]; go_num)⟩
        case measure => go_light; simp [intOf]; omega
    · have hk12 : k = 12 := by omega
      subst hk12
      clear hb hlt hk
      cases a1
      · have hc' : cnt a0 false 12 = 1 := hc
        clear hc
        have h1 : holdsB 1 a0 false = false := rfl
        have h2 : holdsB 2 a0 false = true := rfl
        have h3 : holdsB 3 a0 false = false := rfl
        have h4 : holdsB 4 a0 false = false := rfl
        have h5 : holdsB 5 a0 false = false := rfl
        have h6 : holdsB 6 a0 false = false := rfl
        go_wp2_with (go_at_call 9; refine (zzholds_any _ _ _ _).mono ?_; rintro e w' ⟨rfl, rfl⟩)
        go_ret
        exact ⟨rfl, Grown.refl _⟩
      · have hc' : cnt a0 true 12 = 3 := hc
        clear hc
        have h1 : holdsB 1 a0 true = (a0 == 0) := rfl
        have h2 : holdsB 2 a0 true = (a0 != 0) := rfl
        have h3 : holdsB 3 a0 true = decide (a0 < 0) := rfl
        have h4 : holdsB 4 a0 true = decide (a0 ≤ 0) := rfl
        have h5 : holdsB 5 a0 true = decide (0 < a0) := rfl
        have h6 : holdsB 6 a0 true = decide (0 ≤ a0) := rfl
        rcases Int.lt_trichotomy a0 0 with h | h | h
        · have e1 : (a0 == 0) = false := by simp; omega
          have e2 : (a0 != 0) = true := by simp; omega
          go_wp2_with (go_at_call 9; refine (zzholds_any _ _ _ _).mono ?_; rintro e w' ⟨rfl, rfl⟩)
          go_ret
          exact ⟨rfl, Grown.refl _⟩
        · subst h
          go_wp2_with (go_at_call 9; refine (zzholds_any _ _ _ _).mono ?_; rintro e w' ⟨rfl, rfl⟩)
          go_ret
          exact ⟨rfl, Grown.refl _⟩
        · have e1 : (a0 == 0) = false := by simp; omega
          have e2 : (a0 != 0) = true := by simp; omega
          go_wp2_with (go_at_call 9; refine (zzholds_any _ _ _ _).mono ?_; rintro e w' ⟨rfl, rfl⟩)
          go_ret
          exact ⟨rfl, Grown.refl _⟩

/-! ### THE ROW's STEP: WRITTEN OUT: LEAVE IT -/
set_option maxRecDepth 100000 in
theorem lifted (os : Os) (started : os.Started) (H : Type) (enc : TypeId × Value → H) :
    ReturnsInHanded {} Try.checked os 4 .any (Rows.fnCompareOpHoldsCountsAndCombinationsSpec.pre6 enc Try.prog Try.f4 Rows.fnCompareOpHoldsCountsAndCombinationsRow.domain false) (Rows.fnCompareOpHoldsCountsAndCombinationsSpec.post enc Try.prog Try.f4 false true false false) := by
  refine returnsInHanded_of_change (C := Try.checked) own started (by kernel_rfl) Try.func4
    (ChangeSpec.witness6 (enc := enc) (C := Try.checked) false ⟨#[], #[.int .i64 0, .bool false], []⟩ 8 (by kernel_rfl) (by kernel_rfl) (by kernel_rfl) (by kernel_rfl)) ?_
  intro W base args ds gs before hval0 hW hcnd _
  have hval : ∀ (j : Nat) t v, Try.f4.params[j]? = some t → args[j]? = some v → Value.okWide Try.prog W .any base t v := hval0
  have hW' := hW
  obtain ⟨p, q, hA0, hV, rfl, hfz, hnd⟩ := hW
  have hA : DataW.TrodAll enc Try.prog W 0 (fun _ => true) true Try.f4.params.toList args.toList ds p := hA0
  rw [Try.params4] at hA hval
  obtain ⟨v0, vs0, d0, ds0, p0, q0, hargs, rfl, rfl, h0, r0⟩ := trodAll_cons hA
  obtain ⟨v1, vs1, d1, ds1, p1, q1, rfl, rfl, rfl, h1, r1⟩ := trodAll_cons r0
  obtain ⟨rfl, rfl, rfl⟩ := trodAll_nil r1
  obtain rfl : args = #[v0, v1] := by cases args; simp_all
  obtain ⟨rfl, rfl⟩ := trodVars_none hV
  obtain ⟨a0, rfl, rfl, rfl, w0⟩ := open_int Try.underlying3 (hval 0 3 v0 rfl rfl) h0
  obtain ⟨a1, rfl, rfl, rfl⟩ := open_bool Try.underlying4 (hval 1 4 v1 rfl rfl) h1
  clear hA0 hval0
  simp only [List.append_nil] at hW'
  refine (walk a0 a1 w0 W).mono fun e W' ⟨he, hg⟩ => ?_
  subst he
  exact ⟨_, rfl, post_of_same (pa := []) (pv := []) hW' (fun _ _ _ => (trodAll_cons_mk (shut_bool Try.underlying4 _) trodAll_mk0)) (fun sp _ => (trodAll_cons_mk (shut_int Try.underlying3 w0) (trodAll_cons_mk (shut_bool Try.underlying4 _) trodAll_mk0))) (fun _ _ => rfl) rfl
    (hg.frame _) hg.2.1 (ok_one (by kernel_rfl) rfl (okWide_bool_mk Try.underlying4 _))⟩

theorem over : Rows.fnCompareOpHoldsCountsAndCombinationsRow.holds Try.pinned (OpenSpec.ofChange Rows.fnCompareOpHoldsCountsAndCombinationsSpec) :=
  OpenClaim.holds_of_wide 4 Try.f4 rfl rfl rfl rfl rfl rfl rfl ⟨rfl, rfl, rfl, rfl, rfl⟩ rfl rfl rfl rfl rfl (by kernel_rfl) Try.func4 (by kernel_rfl)
    (of_decide_eq_true (by kernel_rfl)) (by unfold Func.isWrapper; first | (rw [if_pos (by decide +kernel)]; kernel_rfl) | (rw [if_neg (by decide +kernel)]; exact ⟨rfl, rfl⟩))
    (fun os started H enc _ => lifted os started H enc)

/-- ████ THE STATEMENT ████ -/
theorem proved : Rows.FnCompareOpHoldsCountsAndCombinationsSaid :=
  over
#print axioms proved
end Go.Proofs.Qxb6617189a.fnCompareOpHoldsCountsAndCombinations
