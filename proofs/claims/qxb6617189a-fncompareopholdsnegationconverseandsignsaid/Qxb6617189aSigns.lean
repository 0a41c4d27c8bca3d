/-
  The contracts of 'signOfB1' (10), 'negationB1' (11), 'converseB1' (12), 'acceptsB1' (13), and how they stand to 'holdsB'.
-/
import Derived.Test.Qxb6617189aHolds
namespace Go.Proofs.Qxb6617189a
open Go.RowKit

def signI (c : Int) : Int := if c < 0 then -1 else if 0 < c then 1 else 0
def negI (op : Int) : Int := if op = 1 then 2 else if op = 2 then 1 else if op = 3 then 6 else if op = 6 then 3 else if op = 4 then 5 else if op = 5 then 4 else op
def convI (op : Int) : Int := if op = 3 then 5 else if op = 5 then 3 else if op = 4 then 6 else if op = 6 then 4 else op
def accB (op s : Int) : Bool :=
  if s < 0 then decide (op = 2 ∨ op = 3 ∨ op = 4) else if 0 < s then decide (op = 2 ∨ op = 5 ∨ op = 6) else decide (op = 1 ∨ op = 4 ∨ op = 6)

theorem sign_any (c : Int) (w : World) : Calls Try.prog 10 #[.int .i64 c] w fun e w' => e = .returned (.int .i64 (signI c)) ∧ w' = w := by
  go_enter Try.func10, Try.ntmps10
  go_wp2
  all_goals
    go_ret
    refine ⟨ret_int ?_, rfl⟩
    go_light
    unfold signI
    split <;> (try split) <;> omega

theorem neg_any (op : Int) (w : World) : Calls Try.prog 11 #[.int .i64 op] w fun e w' => e = .returned (.int .i64 (negI op)) ∧ w' = w := by
  go_enter Try.func11, Try.ntmps11
  go_wp2
  all_goals
    go_ret
    refine ⟨ret_int ?_, rfl⟩
    go_light
    simp_all [negI]

theorem conv_any (op : Int) (w : World) : Calls Try.prog 12 #[.int .i64 op] w fun e w' => e = .returned (.int .i64 (convI op)) ∧ w' = w := by
  go_enter Try.func12, Try.ntmps12
  go_wp2
  all_goals
    go_ret
    refine ⟨ret_int ?_, rfl⟩
    go_light
    simp_all [convI]

theorem acc_any (op s : Int) (w : World) (h1 : 1 ≤ op) (h6 : op ≤ 6) : Calls Try.prog 13 #[.int .i64 op, .int .i64 s] w fun e w' => e = .returned (.bool (accB op s)) ∧ w' = w := by
  rcases (show op = 1 ∨ op = 2 ∨ op = 3 ∨ op = 4 ∨ op = 5 ∨ op = 6 by omega) with rfl | rfl | rfl | rfl | rfl | rfl
  all_goals
    clear h1 h6
    go_enter Try.func13, Try.ntmps13
    go_wp2
    all_goals
      go_ret
      refine ⟨ret_bool ?_, rfl⟩
      go_light
      unfold accB
      first | (rw [if_pos (by omega)]; rfl) | (rw [if_neg (by omega), if_pos (by omega)]; rfl) | (rw [if_neg (by omega), if_neg (by omega)]; rfl)

/-! ### THE PLAIN LAW: no Go in sight -/
theorem signI_bd (c : Int) : -1 ≤ signI c ∧ signI c ≤ 1 := by
  unfold signI
  split <;> (try split) <;> omega
theorem sign_cases (c : Int) : (c < 0 ∧ signI c = -1) ∨ (c = 0 ∧ signI c = 0) ∨ (0 < c ∧ signI c = 1) := by
  unfold signI
  split <;> (try split) <;> omega

theorem range6 {op : Int} (h1 : 1 ≤ op) (h6 : op ≤ 6) : op = 1 ∨ op = 2 ∨ op = 3 ∨ op = 4 ∨ op = 5 ∨ op = 6 := by omega

theorem plain_acc (op c : Int) (h1 : 1 ≤ op) (h6 : op ≤ 6) : accB op (signI c) = holdsB op c true := by
  rcases range6 h1 h6 with rfl | rfl | rfl | rfl | rfl | rfl <;> rcases sign_cases c with ⟨h, e⟩ | ⟨h, e⟩ | ⟨h, e⟩ <;> rw [e] <;> simp [accB, holdsB] <;> omega
theorem plain_neg (op c : Int) (h1 : 1 ≤ op) (h6 : op ≤ 6) : holdsB (negI op) c true = !holdsB op c true := by
  rcases sign_cases c with ⟨h, _⟩ | ⟨h, _⟩ | ⟨h, _⟩
  · have a1 : (c == 0) = false := by simp; omega
    have a5 : (c != 0) = true := by simp; omega
    have a2 : c ≤ 0 := by omega
    have a3 : ¬ 0 < c := by omega
    have a4 : ¬ 0 ≤ c := by omega
    rcases range6 h1 h6 with rfl | rfl | rfl | rfl | rfl | rfl <;> simp [negI, holdsB, h, a1, a2, a3, a4, a5]
  · subst h
    rcases range6 h1 h6 with rfl | rfl | rfl | rfl | rfl | rfl <;> simp [negI, holdsB]
  · have a1 : (c == 0) = false := by simp; omega
    have a5 : (c != 0) = true := by simp; omega
    have a2 : ¬ c ≤ 0 := by omega
    have a3 : ¬ c < 0 := by omega
    have a4 : 0 ≤ c := by omega
    rcases range6 h1 h6 with rfl | rfl | rfl | rfl | rfl | rfl <;> simp [negI, holdsB, h, a1, a2, a3, a4, a5]
theorem plain_conv (op c : Int) (h1 : 1 ≤ op) (h6 : op ≤ 6) : holdsB (convI op) (-signI c) true = holdsB op c true := by
  rcases range6 h1 h6 with rfl | rfl | rfl | rfl | rfl | rfl <;> rcases sign_cases c with ⟨h, e⟩ | ⟨h, e⟩ | ⟨h, e⟩ <;> rw [e] <;> simp [convI, holdsB] <;> omega
theorem plain_out (op c : Int) (h : op < 1 ∨ 6 < op) : holdsB op c true = false := by
  unfold holdsB
  simp
  (repeat' split) <;> omega
theorem plain_sign (op c : Int) : holdsB op (signI c) true = holdsB op c true := by
  by_cases hr : 1 ≤ op ∧ op ≤ 6
  · rcases range6 hr.1 hr.2 with rfl | rfl | rfl | rfl | rfl | rfl <;> rcases sign_cases c with ⟨h, e⟩ | ⟨h, e⟩ | ⟨h, e⟩ <;> rw [e] <;> simp [holdsB] <;> omega
  · rw [plain_out op _ (by omega), plain_out op _ (by omega)]
theorem plain_strict (op : Int) (h : op ≠ 2) : holdsB op (-1) true = false ∨ (holdsB op (-1) true = true ∧ holdsB op 1 true = false) := by
  by_cases h1 : 1 ≤ op ∧ op ≤ 6
  · rcases range6 h1.1 h1.2 with rfl | rfl | rfl | rfl | rfl | rfl <;> simp [holdsB] at h ⊢
  · exact .inl (plain_out op _ (by omega))
end Go.Proofs.Qxb6617189a
