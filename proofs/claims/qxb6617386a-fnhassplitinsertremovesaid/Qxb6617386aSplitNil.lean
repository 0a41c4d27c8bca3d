/-
  The walk of 'FnHasSplitInsertRemove' (3) at the nil slice.
-/
import Derived.Test.Qxb6617386aSplit
namespace Go.Proofs.Qxb6617386a
open Go.RowKit

theorem make00 (w : World) : (Instr.makeSlice 22 (.int .i64 0) (.int .i64 0)).run Try.prog w = .ok (.slice (some ⟨w.heap.size, 0, none⟩) 0 0) (w.alloc (.cells #[] 23)) := by kernel_rfl
theorem make01 (w : World) : (Instr.makeSlice 22 (.int .i64 0) (.int .i64 1)).run Try.prog w = .ok (.slice (some ⟨w.heap.size, 0, none⟩) 0 1) (w.alloc (.cells #[.int .u64 0] 23)) := by kernel_rfl
theorem own01 (w : World) (id : Int) : (((w.alloc (.cells #[] 23)).alloc (.cells #[.int .u64 0] 23)).alloc (.cells #[.int .u64 id] 23)).ownsRow w.heap.size 23 1 (.slice (some ⟨w.heap.size + 1, 0, none⟩) 0 1) 0 [] := by
  have h := World.ownsRow_made (base := w.heap.size) (e := 23) (size := 1) (w.alloc (.cells #[] 23)) #[.int .u64 0] 1 (by simp) (by unfold maxLen; omega) rfl
  have e : (w.alloc (.cells #[] 23)).heap.size = w.heap.size + 1 := by simp
  rw [e] at h
  exact h.alloc _
theorem one_at (w : World) (id : Int) : ∀ j u, [Value.int .u64 id][j]? = some u → (((w.alloc (.cells #[] 23)).alloc (.cells #[.int .u64 0] 23)).alloc (.cells #[.int .u64 id] 23)).cell? ((⟨w.heap.size + 1 + 1, 0, none⟩ : Addr).add j) = some u := by
  have h := cell_one_new ((w.alloc (.cells #[] 23)).alloc (.cells #[.int .u64 0] 23)) (.int .u64 id) 23
  have e : ((w.alloc (.cells #[] 23)).alloc (.cells #[.int .u64 0] 23)).heap.size = w.heap.size + 1 + 1 := by simp
  rw [e] at h
  exact h

set_option maxHeartbeats 1000000 in
theorem splitNil (id : Int) (w : World) :
    Calls Try.prog 3 #[.slice none 0 0, .int .u64 id, .int .i64 0] w fun e w' => e = .returned (.bool true) ∧ Below w.heap.size w w' := by
  obtain ⟨i0, hinf, hz0, hz1, hz2⟩ := info_parts info23
  go_enter Try.func3, Try.ntmps3
  go_wp2_with fail
  refine (zz5_yes none 0 0 id 0 _ (by omega)).mono ?_
  rintro e w' ⟨rfl, hw⟩
  obtain rfl := hw.symm
  go_wp2_with fail
  refine (clone_nil _).mono ?_
  rintro e w' ⟨rfl, hw⟩
  obtain rfl := hw.symm
  have hmk0 := make00
  have hmk1 := make01
  go_wp2_with fail
  refine wp_loop_rounds 1 ?_
  rw [rounds_succ]
  go_wp2_with fail
  refine wp_loop_rounds 1 ?_
  rw [rounds_succ]
  go_wp2_with (at_builtin; refine wpList_append_fits _ rfl (.tmp 79) (.tmp 81) 22 rfl w.heap.size 23 i0 1 Try.underlying22 hinf hz1 (w.heap.size + 1) 0 1 [] rfl (own01 w id) ⟨w.heap.size + 1 + 1, 0, none⟩ 1 1 [.int .u64 id] rfl rfl (one_at w id) (by intro u hu; simp at hu; subst hu; rfl) (by omega) ?_; intro w5 hown5 hgr5)
  have hb5 : Below w.heap.size w w5 := ((((Below.refl _ _).alloc (Nat.le_refl _) _).alloc (by simp) _).alloc (by simp; omega) _).grown hgr5 (by simp; omega) (by intro k hk; simp at hk; omega)
  have hrowV : Row w5 (.slice (some ⟨w.heap.size + 1, 0, none⟩) 1 1) [id] := by
    have ho : Own w5 w.heap.size (.slice (some ⟨w.heap.size + 1, 0, none⟩) 1 1) [id] := hown5
    exact ho.row
  have hrowN : ∀ ao, Row w5 (.slice ao 0 0) [] := fun ao => row_none _ _ _
  have hN := hasB_nil id
  have hV : hasB [id] id = true := by simp [hasB]
  clear hgr5 hown5 hmk0 hmk1 hinf hz0 hz1 hz2
  refine wp_loop_rounds 1 ?_
  rw [rounds_succ]
  go_wp2_with fail
  refine (zzhas_any _ [] _ _ (by simp) (hrowN _)).mono ?_
  rintro e w' ⟨rfl, hw⟩
  obtain rfl := hw.symm
  go_wp2_with fail
  refine (zzhas_any _ [] _ _ (by simp) (hrowN _)).mono ?_
  rintro e w' ⟨rfl, hw⟩
  obtain rfl := hw.symm
  go_wp2_with fail
  refine (zzhas_any _ [] _ _ (by simp) (hrowN _)).mono ?_
  rintro e w' ⟨rfl, hw⟩
  obtain rfl := hw.symm
  go_wp2_with fail
  refine (zzhas_any _ [id] _ _ (by simp) hrowV).mono ?_
  rintro e w' ⟨rfl, hw⟩
  obtain rfl := hw.symm
  go_wp2_with fail
  refine (zzhas_any _ [] _ _ (by simp) (hrowN _)).mono ?_
  rintro e w' ⟨rfl, hw⟩
  obtain rfl := hw.symm
  go_wp2
  go_ret
  exact ⟨rfl, hb5⟩
end Go.Proofs.Qxb6617386a
