/-
  The walk of 'FnCompareStringBytesCommonPrefixCancels' (6); 'zzBytes_..' (18).
-/
import Derived.Test.Qxb6617189aLexLaw
import Derived.Test.Qxb6617189aConcat
namespace Go.Proofs.Qxb6617189a
open Go.RowKit

theorem zz18_any (p s : ByteArray) (ao : Option Addr) (len cap : Nat) (w : World) (hp : p.size ≤ maxLen) (hs : s.size ≤ maxLen) (hl : len ≤ maxLen) :
    Calls Try.prog 18 #[.string p, .string s, .slice ao len cap] w fun e w' => e = .returned (.bool (decide (p.size + s.size + len ≤ 1048576))) ∧ w' = w := by
  unfold maxLen at hp hs hl
  by_cases h1 : p.size ≤ 1048576
  · by_cases h2 : s.size ≤ 1048576
    · by_cases h3 : p.size + s.size ≤ 1048576
      · by_cases h4 : len ≤ 1048576
        · by_cases h5 : p.size + s.size + len ≤ 1048576
          · go_enter Try.func18, Try.ntmps18
            go_wp2
            go_ret
            exact ⟨ret_bool' (by simp [h5]), rfl⟩
          · go_enter Try.func18, Try.ntmps18
            go_wp2
            go_ret
            exact ⟨ret_bool' (by simp [h5]), rfl⟩
        · go_enter Try.func18, Try.ntmps18
          go_wp2
          go_ret
          exact ⟨ret_bool' (by simp; omega), rfl⟩
      · go_enter Try.func18, Try.ntmps18
        go_wp2
        go_ret
        exact ⟨ret_bool' (by simp; omega), rfl⟩
    · go_enter Try.func18, Try.ntmps18
      go_wp2
      go_ret
      exact ⟨ret_bool' (by simp; omega), rfl⟩
  · go_enter Try.func18, Try.ntmps18
    go_wp2
    go_ret
    exact ⟨ret_bool' (by simp; omega), rfl⟩

/-- Too long: the law answers at once. -/
theorem prefBig (p s : ByteArray) (ao : Option Addr) (len cap : Nat) (w : World) (hp : p.size ≤ maxLen) (hs : s.size ≤ maxLen) (hl : len ≤ maxLen) (hb : ¬ p.size + s.size + len ≤ 1048576) :
    Calls Try.prog 6 #[.string p, .string s, .slice ao len cap] w fun e w' => e = .returned (.bool true) ∧ Below w.heap.size w w' := by
  have hd : decide (p.size + s.size + len ≤ 1048576) = false := by simp; omega
  go_enter Try.func6, Try.ntmps6
  go_wp2_with (go_at_call 18; refine (zz18_any _ _ _ _ _ _ hp hs hl).mono ?_; rintro e w' ⟨rfl, hw⟩; obtain rfl := hw.symm)
  go_ret
  exact ⟨rfl, Below.refl _ _⟩

theorem toList_cat (p s : ByteArray) : (p ++ s).toList = p.toList ++ s.toList := by
  simp [ByteArray.toList_eq]

set_option maxHeartbeats 800000 in
theorem prefLawNil (p s : ByteArray) (w : World) (hsum : p.size + s.size ≤ 1048576) :
    Calls Try.prog 6 #[.string p, .string s, .slice none 0 0] w fun e w' => e = .returned (.bool true) ∧ Below w.heap.size w w' := by
  have hd : decide (p.size + s.size + 0 ≤ 1048576) = true := by simp; omega
  have hq := fun W => neq_nil W none 0 0
  have hrow : ∀ W, Row W (.slice none 0 0) [] := fun W => .inl ⟨rfl, rfl⟩
  have hs : s.size ≤ 1048576 := by omega
  have hm1 : p.size ≤ maxLen := by unfold maxLen; omega
  have hm2 : s.size ≤ maxLen := by unfold maxLen; omega
  have hpre : cmpL (p ++ s).toList p.toList = cmpL s.toList [] := by
    have h := cmpL_common p.toList s.toList []
    rw [List.append_nil] at h
    rw [toList_cat]; exact h
  have hps : p.size + ([] : List UInt8).length ≤ 1048576 := by simp; omega
  go_enter Try.func6, Try.ntmps6
  go_wp2_with fail
  refine (zz18_any _ _ _ _ _ _ hm1 hm2 (Nat.zero_le _)).mono ?_
  rintro e w' ⟨rfl, hw⟩
  obtain rfl := hw.symm
  go_wp2_with fail
  refine (zzcmpS_any _ _ [] _ (hrow _)).mono ?_
  rintro e w' ⟨rfl, hw⟩
  obtain rfl := hw.symm
  go_wp2_with fail
  refine (concat_any p none 0 0 [] _ hps (hrow _)).mono ?_
  rintro e w1 ⟨rfl, hrow1, hbel1⟩
  rw [List.append_nil] at hrow1
  have hrow2 : Row w1 (.slice (some ⟨w.heap.size, 0, none⟩) p.size p.size) p.toList := hrow1
  clear hrow1
  go_wp2_with fail
  refine (zzcmpS_any _ _ p.toList _ hrow2).mono ?_
  rintro e w' ⟨rfl, hw⟩
  obtain rfl := hw.symm
  go_wp2_with fail
  refine (lex_any s _ [] _ hs (by simp) (hrow _)).mono ?_
  rintro e w2 ⟨rfl, hbel2⟩
  go_wp2
  go_ret
  exact ⟨rfl, hbel1.trans (hbel2.mono hbel1.size)⟩

set_option maxHeartbeats 800000 in
theorem prefLawSome (p s : ByteArray) (x : Addr) (cap : Nat) (l : List UInt8) (w : World) (hsum : p.size + s.size + l.length ≤ 1048576) (hc : ∀ j (h : j < l.length), w.cell? (x.add j) = some (cellOf l[j])) :
    Calls Try.prog 6 #[.string p, .string s, .slice (some x) l.length cap] w fun e w' => e = .returned (.bool true) ∧ Below w.heap.size w w' := by
  obtain ⟨i0, hi, hz0, hz1, hz2⟩ := info_u8
  have hs : s.size ≤ 1048576 := by omega
  have hl : l.length ≤ 1048576 := by omega
  have hpl : p.size + l.length ≤ 1048576 := by omega
  have hd : decide (p.size + s.size + l.length ≤ 1048576) = true := by simp; omega
  have hq := fun W => neq_nil W (some x) l.length cap
  have hm1 : p.size ≤ maxLen := by unfold maxLen; omega
  have hm2 : s.size ≤ maxLen := by unfold maxLen; omega
  have hm3 : l.length ≤ maxLen := by unfold maxLen; omega
  have hpre : cmpL (p ++ s).toList (p.toList ++ l) = cmpL s.toList l := by rw [toList_cat]; exact cmpL_common _ _ _
  have HC : Hid (∀ j (h : j < l.length), w.cell? (x.add j) = some (cellOf l[j])) := hc
  clear hc
  go_enter Try.func6, Try.ntmps6
  go_wp2_with (first | (go_at_call 18; refine (zz18_any _ _ _ _ _ _ hm1 hm2 hm3).mono ?_; rintro e w' ⟨rfl, hw⟩; obtain rfl := hw.symm) | (at_make; refine wpList_make_full _ rfl (.tmp 42) (.tmp 42) 28 rfl w.heap.size 5 i0 (.int .u8 0) 1 Try.underlying28 hi hz0 hz1 .i64 .i64 l.length l.length l.length rfl rfl rfl rfl (by rw [hz2]; omega) hm3 (Nat.le_refl _) ?_; intro w1 hown hgr; obtain ⟨w2, hcp, hrow, hbw⟩ := copy_run (cap := cap) rfl hown ((Below.refl _ _).grown hgr (Nat.le_refl _) (by simp)) HC.out; clear hown hgr))
  refine (zzcmpS_any _ _ l _ hrow).mono ?_
  rintro e w' ⟨rfl, hw⟩
  obtain rfl := hw.symm
  clear hcp hq hi hz0 hz1 hz2
  go_wp2_with fail
  refine (concat_any p _ _ _ l _ hpl hrow).mono ?_
  rintro e w3 ⟨rfl, hrow3, hbel3⟩
  go_wp2_with fail
  refine (zzcmpS_any _ _ (p.toList ++ l) _ hrow3).mono ?_
  rintro e w' ⟨rfl, hw⟩
  obtain rfl := hw.symm
  have hrow4 := hrow.kept hbel3
  go_wp2_with fail
  refine (lex_any s _ l _ hs hl hrow4).mono ?_
  rintro e w4 ⟨rfl, hbel4⟩
  go_wp2
  go_ret
  have hbel : Below w.heap.size w w3 := hbw.trans (hbel3.mono hbw.size)
  exact ⟨rfl, hbel.trans (hbel4.mono hbel.size)⟩
end Go.Proofs.Qxb6617189a
