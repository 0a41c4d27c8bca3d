/-
  The contracts of 'compareBools' (25), 'ZZCompareBools' (20), 'bitB1' (21): what they compute, as plain functions.
-/
import Derived.Test.Qxb6617189aRows
import Derived.WalkKit
import Derived.ProofKit
namespace Go.Proofs.Qxb6617189a
open Go.RowKit

/-- What 'compareBools' answers. -/
def cmpB (a b : Bool) : Int := if a = b then 0 else if b = true then -1 else 1
/-- What 'bitB1' answers. -/
def bitI (a : Bool) : Int := if a = true then 1 else 0

theorem cmpB_any (a b : Bool) (w : World) :
    Calls Try.prog 25 #[.bool a, .bool b] w fun e w' => e = .returned (.int .i64 (cmpB a b)) ∧ w' = w := by
  cases a <;> cases b
  all_goals
    go_enter Try.func25, Try.ntmps25
    go_wp2
    go_ret
    exact ⟨rfl, rfl⟩

theorem zzcmpB_any (a b : Bool) (w : World) :
    Calls Try.prog 20 #[.bool a, .bool b] w fun e w' => e = .returned (.int .i64 (cmpB a b)) ∧ w' = w := by
  go_enter Try.func20, Try.ntmps20
  go_wp2_with (go_at_call 25; refine (cmpB_any _ _ _).mono ?_; rintro e w' ⟨rfl, rfl⟩)
  go_ret
  exact ⟨rfl, rfl⟩

theorem bitI_any (a : Bool) (w : World) :
    Calls Try.prog 21 #[.bool a] w fun e w' => e = .returned (.int .i64 (bitI a)) ∧ w' = w := by
  cases a
  all_goals
    go_enter Try.func21, Try.ntmps21
    go_wp2
    go_ret
    exact ⟨rfl, rfl⟩
end Go.Proofs.Qxb6617189a
