/-
  The walk of 'FnHasOrderFreeAndMember' (4) on the inputs that pass its guards; 'zzBytes_FnHasOrderFreeAndMember' (8).
-/
import Derived.Test.Qxb6617386aHas
namespace Go.Proofs.Qxb6617386a
open Go.RowKit

theorem zz8_any (ao : Option Addr) (len cap : Nat) (x i : Int) (w : World) (hl : len ≤ maxLen) :
    Calls Try.prog 8 #[.slice ao len cap, .int .u64 x, .int .i64 i] w fun e w' => e = .returned (.bool (decide ((len : Int) ≤ 1048576))) ∧ w' = w := by
  unfold maxLen at hl
  by_cases h : (len : Int) ≤ 1048576
  all_goals
    go_enter Try.func8, Try.ntmps8
    go_wp2
    go_ret
    exact ⟨ret_bool (by simp [h]), rfl⟩

theorem zz8_yes (ao : Option Addr) (len cap : Nat) (x i : Int) (w : World) (hl : len ≤ 65536) :
    Calls Try.prog 8 #[.slice ao len cap, .int .u64 x, .int .i64 i] w fun e w' => e = .returned (.bool true) ∧ w' = w := by
  have h := zz8_any ao len cap x i w (by unfold maxLen; omega)
  have hdec : decide ((len : Int) ≤ 1048576) = true := by simp; omega
  rw [hdec] at h
  exact h

theorem own_at {w : World} {B g n : Nat} {l : List Int} (h : Own w B (.slice (some ⟨g, 0, none⟩) n n) l) (j : Nat) (hj : j < l.length) : w.cell? ⟨g, j, none⟩ = some (.int .u64 l[j]) := by
  rcases h.cells with ⟨hv, _⟩ | ⟨g', cap, hv, _, _, _, hc⟩
  · simp at hv
  · simp only [Value.slice.injEq, Option.some.injEq, Addr.mk.injEq, and_true] at hv
    obtain ⟨rfl, _⟩ := hv
    exact hc j hj

/-- Of a row of l.length numbers the last j are filled: the first j of l, turned round. -/
def revTo (l : List Int) (j : Nat) : List Value := List.replicate (l.length - j) (.int .u64 0) ++ ((l.take j).reverse).map (Value.int .u64)
theorem revTo_zero (l : List Int) : revTo l 0 = List.replicate l.length (.int .u64 0) := by simp [revTo]
theorem revTo_all (l : List Int) : revTo l l.length = l.reverse.map (Value.int .u64) := by simp [revTo]
theorem revTo_length (l : List Int) (j : Nat) : (revTo l j).length = l.length := by simp [revTo]; omega
theorem revTo_set (l : List Int) (j : Nat) (h : j < l.length) : (revTo l j).set (l.length - 1 - j) (.int .u64 l[j]) = revTo l (j + 1) := by
  unfold revTo
  have hr : l.length - j = (l.length - (j + 1)) + 1 := by omega
  have hi : l.length - 1 - j = l.length - (j + 1) := by omega
  rw [hr, hi, List.replicate_succ', List.append_assoc, List.set_append_right _ _ (by simp), List.length_replicate, Nat.sub_self, List.cons_append, List.set_cons_zero, List.take_succ_eq_append_getElem h, List.reverse_append]
  rfl

theorem orderMain (x : Addr) (cap : Nat) (l : List Int) (id : Int) (i : Nat) (w : World) (hl : l.length ≤ 65536) (hi : i < l.length) (h : Row w (.slice (some x) l.length cap) l) :
    Calls Try.prog 4 #[.slice (some x) l.length cap, .int .u64 id, .int .i64 i] w fun e w' => e = .returned (.bool true) ∧ Below w.heap.size w w' := by
  obtain ⟨i0, hinf, hz0, hz1, hz2⟩ := info_parts info23
  have hrev := fun y => hasB_reverse l y
  have hmem := hasB_hit l i hi l[i] rfl
  go_enter Try.func4, Try.ntmps4
  go_wp2_with (first | (go_at_call 8; refine (zz8_yes _ _ _ _ _ _ hl).mono ?_; rintro e w' ⟨rfl, hw⟩; obtain rfl := hw.symm) | (go_at_call 6; refine (clone_some x cap l _ hl h).mono ?_; rintro e w1 ⟨rfl, hown, hb1⟩; have hcm := own_at hown i hi) | (at_make; refine wpList_make_full _ rfl (.tmp 37) (.tmp 37) 22 rfl w1.heap.size 23 i0 (.int .u64 0) 1 Try.underlying22 hinf hz0 hz1 .i64 .i64 l.length l.length l.length rfl rfl rfl rfl (by rw [hz2]; omega) (by unfold maxLen; omega) (Nat.le_refl _) ?_; intro w2 hown2 hgr2))
  rw [made23, ← revTo_zero] at hown2
  have hb2 : Below w1.heap.size w1 w2 := (Below.refl _ _).grown hgr2 (Nat.le_refl _) (by simp)
  have hsz : w.heap.size ≤ w1.heap.size := hb1.size
  clear hgr2 hinf hz0 hz1 hz2 hcm h
  go_loopw [9] (fun t wr => ∃ j : Nat, j ≤ l.length ∧ t = .int .i64 j ∧ wr.ownsRow w1.heap.size 23 1 (.slice (some ⟨w1.heap.size, 0, none⟩) l.length l.length) l.length (revTo l j) ∧ Below w1.heap.size w1 wr) (fun t _ => l.length - (intOf t).toNat)
  case atStart => exact ⟨0, Nat.zero_le _, rfl, hown2, hb2⟩
  case round =>
    clear hown2 hb2
    obtain ⟨j, hj, rfl, hown2, hb2⟩ := hrel
    by_cases hlt : j < l.length
    · have hcw := own_at hown j hlt
      have hck : wr.cell? ⟨w.heap.size, j, none⟩ = some (.int .u64 l[j]) := (hb2.cell (p := ⟨w.heap.size, j, none⟩) (World.block_lt_of_cell? w1 _ hcw)).trans hcw
      have hf := hown2.frozenAt (l.length - 1 - j)
      have hco := hown2.cellAt (l.length - 1 - j) (by omega)
      obtain ⟨u, hu⟩ : ∃ u, (revTo l j)[l.length - 1 - j]? = some u := ⟨_, List.getElem?_eq_getElem (by rw [revTo_length]; omega)⟩
      rw [hu] at hco
      have hst := (hown2.stored (l.length - 1 - j) (.int .u64 l[j])).1
      rw [revTo_set _ _ hlt] at hst
      have hb' : Below w1.heap.size w1 (wr.setCell ⟨w1.heap.size, l.length - 1 - j, none⟩ (.int .u64 l[j])) := hb2.setCell (Nat.le_refl _) _
      have HR : Hid _ := And.intro hst hb'
      clear hst hb' hu hown hown2 hb1 hb2 hcw hrev hmem
      go_wp2
      go_roundw
      case rel => exact ⟨j + 1, by omega, by go_num, HR.out.1, HR.out.2⟩
      case measure => simp [intOf]; omega
    · have hje : j = l.length := by omega
      have hrow1 : Row wr (.slice (some ⟨w.heap.size, 0, none⟩) l.length l.length) l := hown.row.kept hb2
      have hrow2 : Row wr (.slice (some ⟨w1.heap.size, 0, none⟩) l.length l.length) l.reverse := by
        have ho : Own wr w1.heap.size (.slice (some ⟨w1.heap.size, 0, none⟩) l.length l.length) l.reverse := by
          unfold Own
          rw [List.length_reverse, ← revTo_all]
          rw [hje] at hown2
          exact hown2
        exact ho.row
      have hl1 : l.length ≤ 1048576 := by omega
      have hl2 : l.reverse.length ≤ 1048576 := by rw [List.length_reverse]; omega
      have hbel : Below w.heap.size w wr := hb1.trans (hb2.mono hsz)
      clear hown2 hown hje hb1 hb2 hsz
      go_wp2_with fail
      refine (zzhas_any _ l _ _ hl1 hrow1).mono ?_
      rintro e w' ⟨rfl, hw⟩
      obtain rfl := hw.symm
      go_wp2_with fail
      refine (zzhas_any _ l.reverse _ _ hl2 hrow2).mono ?_
      rintro e w' ⟨rfl, hw⟩
      obtain rfl := hw.symm
      go_wp2_with fail
      refine (zzhas_any _ l _ _ hl1 hrow1).mono ?_
      rintro e w' ⟨rfl, hw⟩
      obtain rfl := hw.symm
      go_wp2_with fail
      refine (zzhas_any _ l.reverse _ _ hl2 hrow2).mono ?_
      rintro e w' ⟨rfl, hw⟩
      obtain rfl := hw.symm
      go_wp2
      go_ret
      exact ⟨rfl, hbel⟩

/-- More than 65536 numbers: the law answers at once. -/
theorem orderBig (ao : Option Addr) (len cap : Nat) (id i : Int) (w : World) (hl : len ≤ maxLen) (hb : 65536 < len) :
    Calls Try.prog 4 #[.slice ao len cap, .int .u64 id, .int .i64 i] w fun e w' => e = .returned (.bool true) ∧ Below w.heap.size w w' := by
  by_cases h : (len : Int) ≤ 1048576
  · have hd : decide ((len : Int) ≤ 1048576) = true := by simp; omega
    go_enter Try.func4, Try.ntmps4
    go_wp2_with (go_at_call 8; refine (zz8_any _ _ _ _ _ _ hl).mono ?_; rintro e w' ⟨rfl, hw⟩; obtain rfl := hw.symm)
    go_ret
    exact ⟨rfl, Below.refl _ _⟩
  · have hd : decide ((len : Int) ≤ 1048576) = false := by simp; omega
    go_enter Try.func4, Try.ntmps4
    go_wp2_with (go_at_call 8; refine (zz8_any _ _ _ _ _ _ hl).mono ?_; rintro e w' ⟨rfl, hw⟩; obtain rfl := hw.symm)
    go_ret
    exact ⟨rfl, Below.refl _ _⟩

/-- No such index: the law answers at once. -/
theorem orderOutside (ao : Option Addr) (len cap : Nat) (id i : Int) (w : World) (hl : len ≤ 65536) (hb : i < 0 ∨ (len : Int) ≤ i) :
    Calls Try.prog 4 #[.slice ao len cap, .int .u64 id, .int .i64 i] w fun e w' => e = .returned (.bool true) ∧ Below w.heap.size w w' := by
  rcases hb with h | h
  · go_enter Try.func4, Try.ntmps4
    go_wp2_with (go_at_call 8; refine (zz8_yes _ _ _ _ _ _ hl).mono ?_; rintro e w' ⟨rfl, hw⟩; obtain rfl := hw.symm)
    go_ret
    exact ⟨rfl, Below.refl _ _⟩
  · go_enter Try.func4, Try.ntmps4
    go_wp2_with (go_at_call 8; refine (zz8_yes _ _ _ _ _ _ hl).mono ?_; rintro e w' ⟨rfl, hw⟩; obtain rfl := hw.symm)
    go_ret
    exact ⟨rfl, Below.refl _ _⟩
end Go.Proofs.Qxb6617386a
