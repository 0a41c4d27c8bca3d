/-
  The contracts of 'holds' (23) and 'ZZHolds' (9): what the two compute, as a plain function of numbers.
-/
import Derived.Test.Qxb6617189aRows
import Derived.WalkKit
import Derived.ProofKit
import Derived.Deep.Light
namespace Go.Proofs.Qxb6617189a
open Go.RowKit

/-- What 'holds' answers. -/
def holdsB (op c : Int) (ordered : Bool) : Bool :=
  if ordered = false then op == 2
  else if op = 1 then c == 0
  else if op = 2 then c != 0
  else if op = 3 then decide (c < 0)
  else if op = 4 then decide (c ≤ 0)
  else if op = 5 then decide (0 < c)
  else if op = 6 then decide (0 ≤ c)
  else false

theorem ret_bool {a b : Bool} (h : a = b) : Ending.returned (.bool a) = .returned (.bool b) := by rw [h]
theorem ret_int {k : IntKind} {a b : Int} (h : a = b) : Ending.returned (.int k a) = .returned (.int k b) := by rw [h]

theorem holds_any (op c : Int) (o : Bool) (w : World) :
    Calls Try.prog 23 #[.int .i64 op, .int .i64 c, .bool o] w fun e w' => e = .returned (.bool (holdsB op c o)) ∧ w' = w := by
  go_enter Try.func23, Try.ntmps23
  go_wp2
  all_goals
    go_ret
    refine ⟨ret_bool ?_, rfl⟩
    go_light
    simp_all [holdsB]

theorem zzholds_any (op c : Int) (o : Bool) (w : World) :
    Calls Try.prog 9 #[.int .i64 op, .int .i64 c, .bool o] w fun e w' => e = .returned (.bool (holdsB op c o)) ∧ w' = w := by
  go_enter Try.func9, Try.ntmps9
  go_wp2_with (go_at_call 23; refine (holds_any _ _ _ _).mono ?_; rintro e w' ⟨rfl, rfl⟩)
  go_ret
  exact ⟨rfl, rfl⟩
end Go.Proofs.Qxb6617189a
