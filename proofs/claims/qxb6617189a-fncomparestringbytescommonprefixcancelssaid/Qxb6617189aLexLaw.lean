/-
  The walk of 'FnCompareStringBytesIsByteLexicographicAndAntisymmetric' (5) where the slice is nil, and where it is not; 'zzBytes_..' (14).
-/
import Derived.Test.Qxb6617189aLex
import Derived.Laws.CopyOwn
import Derived.Deep.RegionWith
import Derived.Lib.SliceRun
import Derived.WalkSpells
namespace Go.Proofs.Qxb6617189a
open Go.RowKit

theorem ret_bool' {a b : Bool} (h : a = b) : Ending.returned (.bool a) = .returned (.bool b) := by rw [h]

theorem zz14_any (s : ByteArray) (ao : Option Addr) (len cap : Nat) (w : World) (hs : s.size ≤ maxLen) (hl : len ≤ maxLen) :
    Calls Try.prog 14 #[.string s, .slice ao len cap] w fun e w' => e = .returned (.bool (decide (s.size + len ≤ 1048576))) ∧ w' = w := by
  unfold maxLen at hs hl
  by_cases h1 : s.size ≤ 1048576
  · by_cases h2 : len ≤ 1048576
    · by_cases h3 : s.size + len ≤ 1048576
      · go_enter Try.func14, Try.ntmps14
        go_wp2
        go_ret
        exact ⟨ret_bool' (by simp [h3]), rfl⟩
      · go_enter Try.func14, Try.ntmps14
        go_wp2
        go_ret
        exact ⟨ret_bool' (by simp [h3]), rfl⟩
    · go_enter Try.func14, Try.ntmps14
      go_wp2
      go_ret
      exact ⟨ret_bool' (by simp; omega), rfl⟩
  · go_enter Try.func14, Try.ntmps14
    go_wp2
    go_ret
    exact ⟨ret_bool' (by simp; omega), rfl⟩

theorem neq_nil (w : World) (a : Option Addr) (n c : Nat) : (binOp .neq 28 (.slice a n c) (.slice none 0 0)).run Try.prog w = .ok (.bool (!a.isNone)) w :=
  run_neq_slice_nil_any w 28 5 a n c 0 0 Try.underlying28

/-- Too long: the law answers at once. -/
theorem lexBig (s : ByteArray) (ao : Option Addr) (len cap : Nat) (w : World) (hs : s.size ≤ maxLen) (hl : len ≤ maxLen) (hb : ¬ s.size + len ≤ 1048576) :
    Calls Try.prog 5 #[.string s, .slice ao len cap] w fun e w' => e = .returned (.bool true) ∧ Below w.heap.size w w' := by
  have hd : decide (s.size + len ≤ 1048576) = false := by simp; omega
  go_enter Try.func5, Try.ntmps5
  go_wp2_with (go_at_call 14; refine (zz14_any _ _ _ _ _ hs hl).mono ?_; rintro e w' ⟨rfl, hw⟩; obtain rfl := hw.symm)
  go_ret
  exact ⟨rfl, Below.refl _ _⟩

/-- The rest of the law's walk behind the copy, for whatever slice 'b' then is. -/
theorem conv_later {w : World} {v : Value} {l : List UInt8} (h : Row w v l) : ∀ W', Below w.heap.size w W' → (convert 28 9 v).run Try.prog W' = .ok (.string ⟨l.toArray⟩) W' := fun _ hb => conv_row (h.kept hb)

set_option maxHeartbeats 800000 in
theorem lexLawNil (s : ByteArray) (w : World) (hs : s.size ≤ 1048576) :
    Calls Try.prog 5 #[.string s, .slice none 0 0] w fun e w' => e = .returned (.bool true) ∧ Below w.heap.size w w' := by
  have hd : decide (s.size + 0 ≤ 1048576) = true := by simp; omega
  have hq := fun W => neq_nil W none 0 0
  have hrow : ∀ W, Row W (.slice none 0 0) [] := fun W => .inl ⟨rfl, rfl⟩
  have hm : s.size ≤ maxLen := by unfold maxLen; omega
  obtain ⟨t, ht⟩ : ∃ t : ByteArray, t = ⟨([] : List UInt8).toArray⟩ := ⟨_, rfl⟩
  have hcv : ∀ W, (convert 28 9 (.slice none 0 0)).run Try.prog W = .ok (.string t) W := fun W => by rw [ht]; exact conv_row (hrow W)
  have hsw : cmpL t.toList s.toList = - cmpL s.toList [] := by
    have e : t.toList = [] := by rw [ht]; exact ByteArray.toList_mk []
    rw [e]; exact cmpL_swap _ _
  have hbd : -1 ≤ cmpL s.toList [] ∧ cmpL s.toList [] ≤ 1 := by rcases cmpL_range s.toList [] with h | h | h <;> omega
  obtain ⟨hb1, hb2⟩ := hbd
  clear ht
  go_enter Try.func5, Try.ntmps5
  go_wp2_with (first | (go_at_call 14; refine (zz14_any _ _ _ _ _ hm (Nat.zero_le _)).mono ?_; rintro e w' ⟨rfl, hw⟩; obtain rfl := hw.symm) | (go_at_call 15; refine (zzcmpS_any _ _ [] _ (hrow _)).mono ?_; rintro e w' ⟨rfl, hw⟩; obtain rfl := hw.symm))
  go_region_with (first | (go_at_call 16; refine (bytesOf_any _ _ hs).mono ?_; rintro e w1 ⟨rfl, hrow1, hbel1⟩) | (go_at_call 15; refine (zzcmpS_any _ _ _ _ hrow1).mono ?_; rintro e w' ⟨rfl, hw⟩; obtain rfl := hw.symm))
  go_wp2_with (go_at_call 17; refine (lex_any s _ [] _ hs (by simp) (hrow _)).mono ?_; rintro e w2 ⟨rfl, hbel2⟩)
  go_ret
  have hbel : Below w.heap.size w w1 := (Below.refl _ _).drew.trans hbel1
  exact ⟨rfl, hbel.trans (hbel2.mono hbel.size)⟩

/-- 'copy(zzc, b)': zzc the row just made, b whatever came in. -/
theorem copy_run {w w1 : World} {x : Addr} {cap n : Nat} {l : List UInt8} {xs : List Value} (hn : l.length = n) (hown : w1.ownsRow w.heap.size 5 1 (.slice (some ⟨w.heap.size, 0, none⟩) n n) n xs) (hb : Below w.heap.size w w1)
    (hc : ∀ j (h : j < l.length), w.cell? (x.add j) = some (cellOf l[j])) :
    ∃ w2, (∀ ty, (Builtin.copy_ #[28, 28] ty #[.slice (some ⟨w.heap.size, 0, none⟩) n n, .slice (some x) n cap]).run Try.prog w1 = .ok (.int .i64 (n : Int)) w2) ∧
      Row w2 (.slice (some ⟨w.heap.size, 0, none⟩) n n) l ∧ Below w.heap.size w w2 := by
  rcases hown.2 with ⟨h, _⟩ | ⟨g, cap', cur, h, _, hg, _, _, hsz, _⟩
  · simp at h
  · simp only [Value.slice.injEq, Option.some.injEq, Addr.mk.injEq, and_true, true_and] at h
    obtain ⟨rfl, rfl⟩ := h
    have hlm : (l.map cellOf).length = n := by rw [List.length_map]; exact hn
    have hrun := fun ty => run_copy_row (P := Try.prog) w1 28 28 ty 5 w.heap.size 0 n n x n cap cur 5 (l.map cellOf) Try.underlying28 (by kernel_rfl) hg (by rw [hlm]; simp)
      (fun j v hj => by
        have hj' : j < l.length := by
          have := (List.getElem?_eq_some_iff.1 hj).1
          simpa using this
        have e : cellOf l[j] = v := by simpa [List.getElem?_eq_getElem hj'] using hj
        rw [← e]
        have hcj := hc j hj'
        exact (hb.cell (World.block_lt_of_cell? w _ hcj)).trans hcj) (by rw [hlm, hsz]; omega) (by intro v hv; simp [cellOf] at hv; obtain ⟨c, _, rfl⟩ := hv; rfl)
    rw [hlm] at hrun
    refine ⟨_, hrun, ?_, below_setRow hb (Nat.le_refl _) _⟩
    subst hn
    have hdr : cur.toList.drop (0 + l.length) = [] := List.drop_eq_nil_of_le (by rw [Array.length_toList, hsz]; omega)
    have hheap := setRow_heap w1 w.heap.size cur (cur.toList.take 0 ++ l.map cellOf ++ cur.toList.drop (0 + l.length)).toArray 5 _ hg
    refine .inr ⟨w.heap.size, _, rfl, fun j hj => ?_⟩
    rw [cell_of_row _ w.heap.size j _ 5 _ hheap, hdr]
    simp [List.getElem?_eq_getElem hj, cellOf]

theorem info_u8 : ∃ i0, Try.prog.info? 5 = some i0 ∧ i0.zero = some (.int .u8 0) ∧ i0.size = 1 ∧ i0.bytes = 1 := info_parts info5

set_option maxHeartbeats 800000 in
theorem lexLawSome (s : ByteArray) (x : Addr) (cap : Nat) (l : List UInt8) (w : World) (hsum : s.size + l.length ≤ 1048576) (hc : ∀ j (h : j < l.length), w.cell? (x.add j) = some (cellOf l[j])) :
    Calls Try.prog 5 #[.string s, .slice (some x) l.length cap] w fun e w' => e = .returned (.bool true) ∧ Below w.heap.size w w' := by
  obtain ⟨i0, hi, hz0, hz1, hz2⟩ := info_u8
  have hs : s.size ≤ 1048576 := by omega
  have hl : l.length ≤ 1048576 := by omega
  have hd : decide (s.size + l.length ≤ 1048576) = true := by simp; omega
  have hq := fun W => neq_nil W (some x) l.length cap
  have hm : s.size ≤ maxLen := by unfold maxLen; omega
  have hm2 : l.length ≤ maxLen := by unfold maxLen; omega
  obtain ⟨t, ht⟩ : ∃ t : ByteArray, t = ⟨l.toArray⟩ := ⟨_, rfl⟩
  have hsw : cmpL t.toList s.toList = - cmpL s.toList l := by
    have e : t.toList = l := by rw [ht]; exact ByteArray.toList_mk l
    rw [e]; exact cmpL_swap _ _
  have hbd : -1 ≤ cmpL s.toList l ∧ cmpL s.toList l ≤ 1 := by rcases cmpL_range s.toList l with h | h | h <;> omega
  obtain ⟨hb1, hb2⟩ := hbd
  have HC : Hid (∀ j (h : j < l.length), w.cell? (x.add j) = some (cellOf l[j])) := hc
  have HT : Hid (t = ⟨l.toArray⟩) := ht
  clear ht hc
  go_enter Try.func5, Try.ntmps5
  go_wp2_with (first | (go_at_call 14; refine (zz14_any _ _ _ _ _ hm hm2).mono ?_; rintro e w' ⟨rfl, hw⟩; obtain rfl := hw.symm) | (at_make; refine wpList_make_full _ rfl (.tmp 31) (.tmp 31) 28 rfl w.heap.size 5 i0 (.int .u8 0) 1 Try.underlying28 hi hz0 hz1 .i64 .i64 l.length l.length l.length rfl rfl rfl rfl (by rw [hz2]; omega) hm2 (Nat.le_refl _) ?_; intro w1 hown hgr; obtain ⟨w2, hcp, hrow, hbw⟩ := copy_run (cap := cap) rfl hown ((Below.refl _ _).grown hgr (Nat.le_refl _) (by simp)) HC.out; clear hown hgr) | (go_at_call 15; refine (zzcmpS_any _ _ l _ hrow).mono ?_; rintro e w' ⟨rfl, hw⟩; obtain rfl := hw.symm))
  have hcv0 : (convert 28 9 (.slice (some ⟨w.heap.size, 0, none⟩) l.length l.length)).run Try.prog w2.drew = .ok (.string t) w2.drew := by rw [HT.out]; exact conv_later hrow _ (Below.refl _ _).drew
  clear hcp hq hi hz0 hz1 hz2
  go_region_with (first | (go_at_call 16; refine (bytesOf_any _ _ hs).mono ?_; rintro e w3 ⟨rfl, hrow3, hbel3⟩; have hbel3' : Below w2.heap.size w2 w3 := (Below.refl _ _).drew.trans hbel3; have hcv3 : (convert 28 9 (.slice (some ⟨w.heap.size, 0, none⟩) l.length l.length)).run Try.prog w3 = .ok (.string t) w3 := by { rw [HT.out]; exact conv_later hrow _ hbel3' }) | (go_at_call 15; refine (zzcmpS_any _ _ _ _ hrow3).mono ?_; rintro e w' ⟨rfl, hw⟩; obtain rfl := hw.symm))
  all_goals
    have hrow4 := hrow.kept hbel3'
    have hbel : Below w.heap.size w w3 := hbw.trans (hbel3'.mono hbw.size)
    clear hcv0 hcv3 hrow3 hbel3 hbel3' hbw hrow
    go_wp2_with (go_at_call 17; refine (lex_any s _ l _ hs hl hrow4).mono ?_; rintro e w4 ⟨rfl, hbel4⟩)
    go_ret
    exact ⟨rfl, hbel.trans (hbel4.mono hbel.size)⟩
end Go.Proofs.Qxb6617189a
