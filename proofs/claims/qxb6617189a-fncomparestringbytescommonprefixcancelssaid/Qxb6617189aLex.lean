/-
  The contract of 'lexB1' (17).
-/
import Derived.Test.Qxb6617189aBytes
import Derived.Deep.QuietTactic
import Derived.BigQuiet
import Derived.WalkSmall
namespace Go.Proofs.Qxb6617189a
open Go.RowKit

theorem toList_at (s : ByteArray) (k : Nat) (h : k < s.toList.length) (h' : k < s.size) : s.toList[k] = s[k] := by
  simp only [ByteArray.toList_eq]
  rfl

theorem lex_nil (s : ByteArray) (w : World) (hs : s.size ≤ 1048576) :
    Calls Try.prog 17 #[.string s, .slice none 0 0] w fun e w' => e = .returned (.int .i64 (cmpL s.toList [])) ∧ Below w.heap.size w w' := by
  by_cases h0 : s.size = 0
  · have e : cmpL s.toList [] = 0 := cmpL_end_eq _ _ 0 (by simp) (by rw [size_toList]; omega) (by simp)
    have h0' : ¬ 0 < s.size := by omega
    go_enter Try.func17, Try.ntmps17
    go_wp2
    refine wp_loop_rounds 1 ?_
    rw [rounds_succ]
    go_wp2
    go_ret
    exact ⟨ret_int e.symm, Below.refl _ _⟩
  · have e : cmpL s.toList [] = 1 := cmpL_end_gt _ _ 0 (by simp) (by rw [size_toList]; omega) (by simp)
    have h0' : 0 < s.size := by omega
    go_enter Try.func17, Try.ntmps17
    go_wp2
    refine wp_loop_rounds 1 ?_
    rw [rounds_succ]
    go_wp2
    go_ret
    exact ⟨ret_int e.symm, Below.refl _ _⟩

set_option maxHeartbeats 800000 in
theorem lex_some (s : ByteArray) (g cap : Nat) (l : List UInt8) (w : World) (hs : s.size ≤ 1048576) (_hl : l.length ≤ 1048576) (hc : ∀ j (h : j < l.length), w.cell? ⟨g, j, none⟩ = some (.int .u8 (l[j].toNat : Int))) :
    Calls Try.prog 17 #[.string s, .slice (some ⟨g, 0, none⟩) l.length cap] w fun e w' => e = .returned (.int .i64 (cmpL s.toList l)) ∧ Below w.heap.size w w' := by
  go_enter Try.func17, Try.ntmps17
  go_wp2
  go_loopw [5] (fun t wr => ∃ k n : Nat, k ≤ s.size ∧ k ≤ l.length ∧ t = .int .i64 k ∧ Hid (s.toList.take k = l.take k) ∧ wr = w.drewN n) (fun t _ => l.length - (intOf t).toNat)
  case atStart => exact ⟨0, 0, Nat.zero_le _, Nat.zero_le _, rfl, rfl, rfl⟩
  case round =>
    obtain ⟨k, n, hks, hkl, rfl, HT, rfl⟩ := hrel
    by_cases h1 : k < s.size
    · by_cases h2 : k < l.length
      · have hck := hc k h2
        have h1' : k < s.toList.length := by rw [size_toList]; exact h1
        have ht := toList_at s k h1' h1
        have HE : Hid (s[k] = l[k] → s.toList.take (k + 1) = l.take (k + 1)) := fun he => take_step _ _ _ HT.out h1' h2 (by rw [ht, he])
        have HL : Hid (s[k] < l[k] → cmpL s.toList l = -1) := fun he => cmpL_at_lt _ _ _ HT.out h1' h2 (by rw [ht]; exact he)
        have HG : Hid (l[k] < s[k] → cmpL s.toList l = 1) := fun he => cmpL_at_gt _ _ _ HT.out h1' h2 (by rw [ht]; exact he)
        clear ht HT hc
        rcases Nat.lt_trichotomy s[k].toNat l[k].toNat with hlt | heq | hgt
        · have b1 : ((s[k].toNat : Int) != (l[k].toNat : Int)) = true := by simp; omega
          have b2 : (s[k].toNat : Int) < (l[k].toNat : Int) := by omega
          go_wp2
          go_quiet (fail)
          go_wp2
          go_quiet (fail)
          go_wp2
          go_ret
          exact ⟨ret_int (HL.out (UInt8.lt_iff_toNat_lt.2 hlt)).symm, below_drewN (below_drewN (below_drewN (Below.refl _ _) _) _) _⟩
        · have b1 : ((s[k].toNat : Int) != (l[k].toNat : Int)) = false := by simp; omega
          have HE' : Hid (s.toList.take (k + 1) = l.take (k + 1)) := HE.out (UInt8.toNat_inj.1 heq)
          clear heq HL HG HE
          go_wp2
          go_quiet (fail)
          go_wp2
          go_roundw
          case rel => exact ⟨k + 1, n + nq, by omega, by omega, by go_num, HE', rfl⟩
          case measure => simp [intOf]; omega
        · have b1 : ((s[k].toNat : Int) != (l[k].toNat : Int)) = true := by simp; omega
          have b2 : ¬ (s[k].toNat : Int) < (l[k].toNat : Int) := by omega
          go_wp2
          go_quiet (fail)
          go_wp2
          go_quiet (fail)
          go_wp2
          go_ret
          exact ⟨ret_int (HG.out (UInt8.lt_iff_toNat_lt.2 hgt)).symm, below_drewN (below_drewN (below_drewN (Below.refl _ _) _) _) _⟩
      · have HZ : Hid (cmpL s.toList l = 1) := cmpL_end_gt _ _ k HT.out (by rw [size_toList]; exact h1) (by omega)
        clear hc HT
        go_wp2
        go_ret
        exact ⟨ret_int HZ.out.symm, below_drewN (Below.refl _ _) _⟩
    · by_cases h2 : k < l.length
      · have HZ : Hid (cmpL s.toList l = -1) := cmpL_end_lt _ _ k HT.out (by rw [size_toList]; omega) h2
        clear hc HT
        go_wp2
        go_ret
        exact ⟨ret_int HZ.out.symm, below_drewN (Below.refl _ _) _⟩
      · have HZ : Hid (cmpL s.toList l = 0) := cmpL_end_eq _ _ k HT.out (by rw [size_toList]; omega) (by omega)
        clear hc HT
        go_wp2
        go_ret
        exact ⟨ret_int HZ.out.symm, below_drewN (Below.refl _ _) _⟩

theorem lex_any (s : ByteArray) (v : Value) (l : List UInt8) (w : World) (hs : s.size ≤ 1048576) (hl : l.length ≤ 1048576) (h : Row w v l) :
    Calls Try.prog 17 #[.string s, v] w fun e w' => e = .returned (.int .i64 (cmpL s.toList l)) ∧ Below w.heap.size w w' := by
  rcases h with ⟨rfl, rfl⟩ | ⟨g, cap, rfl, hc⟩
  · exact lex_nil s w hs
  · exact lex_some s g cap l w hs hl hc
end Go.Proofs.Qxb6617189a
