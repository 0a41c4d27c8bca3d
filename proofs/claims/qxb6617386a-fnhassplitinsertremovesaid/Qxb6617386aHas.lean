/-
  The contracts of 'has' (9), 'ZZhas' (7), 'cloneU64' (6).
-/
import Derived.Test.Qxb6617386aRows
import Derived.WalkKit
import Derived.Lib.SliceRun
import Derived.ProofKit
import Derived.OpenShut
import Derived.Deep.Light
import Derived.Test.Qxb6617386aPlain
namespace Go.Proofs.Qxb6617386a
open Go.RowKit

theorem ret_bool {a b : Bool} (h : a = b) : Ending.returned (.bool a) = .returned (.bool b) := by rw [h]

theorem has_any (v : Value) (l : List Int) (x : Int) (w : World) (hl : l.length ≤ 1048576) (h : Row w v l) :
    Calls Try.prog 9 #[v, .int .u64 x] w fun e w' => e = .returned (.bool (hasB l x)) ∧ w' = w := by
  obtain ⟨ao, cap, rfl, hp⟩ := h
  by_cases h0 : 0 < l.length
  · obtain ⟨g, off, rfl, hc⟩ := hp h0
    clear hp
    go_enter Try.func9, Try.ntmps9
    go_wp2
    go_loop [9] (fun i => ∃ k : Nat, k ≤ l.length ∧ i = .int .i64 k ∧ Hid (hasB (l.take k) x = false)) (fun i => l.length - (intOf i).toNat)
    case atStart => exact ⟨0, Nat.zero_le _, rfl, rfl⟩
    case round =>
      obtain ⟨k, hk, rfl, hno⟩ := hrel
      by_cases hlt : k < l.length
      · have hck := hc k hlt
        have hs := hasB_snoc l k hlt x
        have hh := hasB_hit l k hlt x
        have HS : Hid _ := hs
        have HH : Hid _ := hh
        clear hs hh hc
        go_wp2
        · go_ret
          exact ⟨ret_bool (HH.out (by go_light; simp_all)).symm, rfl⟩
        · go_round
          case rel => exact ⟨k + 1, by omega, by go_num, by
            have e : (l[k] == x) = false := by assumption
            show _ = _
            rw [HS.out, hno.out, e]; rfl⟩
          case measure => simp [intOf]; omega
      · go_wp2
        go_ret
        refine ⟨ret_bool ?_, rfl⟩
        have hno' := hno.out
        rw [List.take_of_length_le (by omega)] at hno'
        exact hno'.symm
  · have hn : l = [] := List.eq_nil_of_length_eq_zero (by omega)
    subst hn
    go_enter Try.func9, Try.ntmps9
    go_wp2
    refine wp_loop_rounds 1 ?_
    rw [rounds_succ]
    go_wp2
    go_ret
    exact ⟨rfl, rfl⟩

theorem zzhas_any (v : Value) (l : List Int) (x : Int) (w : World) (hl : l.length ≤ 1048576) (h : Row w v l) :
    Calls Try.prog 7 #[v, .int .u64 x] w fun e w' => e = .returned (.bool (hasB l x)) ∧ w' = w := by
  go_enter Try.func7, Try.ntmps7
  go_wp2_with (go_at_call 9; refine (has_any _ l _ _ hl h).mono ?_; rintro e w' ⟨rfl, rfl⟩)
  go_ret
  exact ⟨rfl, rfl⟩

theorem info23 : (Try.prog.info? 23).map (fun i => (i.zero, i.size, i.bytes)) = some (some (.int .u64 0), 1, 8) := by kernel_rfl

theorem made23 (n : Nat) : (madeCells (Value.cells (.int .u64 0)) (n * 1)).toList = List.replicate n (.int .u64 0) := by rw [Nat.mul_one]; exact toList_madeCells_one _ _

theorem eql_nil (w : World) (a : Option Addr) (n c : Nat) : (binOp .eql 22 (.slice a n c) (.slice none 0 0)).run Try.prog w = .ok (.bool a.isNone) w :=
  Lib.run_eql_slice_nil w 22 23 a n c 0 0 Try.underlying22

/-- 'cloneU64' of nil. -/
theorem clone_nil (w : World) : Calls Try.prog 6 #[.slice none 0 0] w fun e w' => e = .returned (.slice none 0 0) ∧ w' = w := by
  have hq := fun w => eql_nil w none 0 0
  go_enter Try.func6, Try.ntmps6
  go_wp2
  go_ret
  exact ⟨rfl, rfl⟩

/-- 'cloneU64' of what is not nil: a new row with the same numbers. -/
theorem clone_some (a : Addr) (cap : Nat) (l : List Int) (w : World) (hl : l.length ≤ 65536) (h : Row w (.slice (some a) l.length cap) l) :
    Calls Try.prog 6 #[.slice (some a) l.length cap] w fun e w' => e = .returned (.slice (some ⟨w.heap.size, 0, none⟩) l.length l.length) ∧ Own w' w.heap.size (.slice (some ⟨w.heap.size, 0, none⟩) l.length l.length) l ∧ Below w.heap.size w w' := by
  obtain ⟨i0, hi, hz0, hz1, hz2⟩ := info_parts info23
  obtain ⟨ao, cap', hv, hp⟩ := h
  simp only [Value.slice.injEq, true_and] at hv
  obtain ⟨rfl, rfl⟩ := hv
  have hq := fun w => eql_nil w (some a) l.length cap
  go_enter Try.func6, Try.ntmps6
  go_wp2_with (at_make; refine wpList_make_full _ rfl (.tmp 8) (.tmp 8) 22 rfl w.heap.size 23 i0 (.int .u64 0) 1 Try.underlying22 hi hz0 hz1 .i64 .i64 l.length l.length l.length rfl rfl rfl rfl (by rw [hz2]; omega) (by unfold maxLen; omega) (Nat.le_refl _) ?_; intro w1 hown hgr)
  rw [made23, ← fillTo_zero] at hown
  have hb0 : Below w.heap.size w w1 := (Below.refl _ _).grown hgr (Nat.le_refl _) (by simp)
  clear hgr hi hz0 hz1 hz2
  clear hq
  go_loopw [4] (fun i wr => ∃ k : Nat, k ≤ l.length ∧ i = .int .i64 k ∧ wr.ownsRow w.heap.size 23 1 (.slice (some ⟨w.heap.size, 0, none⟩) l.length l.length) l.length (fillTo l k) ∧ Below w.heap.size w wr) (fun i _ => l.length - (intOf i).toNat)
  case atStart => exact ⟨0, Nat.zero_le _, rfl, hown, hb0⟩
  case round =>
    clear hown hb0
    obtain ⟨k, hk, rfl, hown, hb⟩ := hrel
    by_cases hlt : k < l.length
    · obtain ⟨g, off, ha, hc⟩ := hp (by omega)
      obtain rfl := Option.some.inj ha
      have hcw := hc k hlt
      have hck : wr.cell? ⟨g, off + k, none⟩ = some (.int .u64 l[k]) := (hb.cell (p := ⟨g, off + k, none⟩) (World.block_lt_of_cell? w _ hcw)).trans hcw
      have hf := hown.frozenAt k
      have hco := hown.cellAt k (by omega)
      obtain ⟨u, hu⟩ : ∃ u, (fillTo l k)[k]? = some u := ⟨_, List.getElem?_eq_getElem (by rw [fillTo_length]; exact hlt)⟩
      rw [hu] at hco
      have hst := (hown.stored k (.int .u64 l[k])).1
      rw [fillTo_set _ _ hlt] at hst
      have hb' : Below w.heap.size w (wr.setCell ⟨w.heap.size, k, none⟩ (.int .u64 l[k])) := hb.setCell (Nat.le_refl _) _
      have HR : Hid _ := And.intro hst hb'
      clear hst hb' hu hown hb hcw hc hp ha
      go_wp2
      go_roundw
      case rel => exact ⟨k + 1, by omega, by go_num, HR.out.1, HR.out.2⟩
      case measure => simp [intOf]; omega
    · have hke : k = l.length := by omega
      have hown' : Own wr w.heap.size (.slice (some ⟨w.heap.size, 0, none⟩) l.length l.length) l := by
        unfold Own; rw [← fillTo_all, ← hke]; rw [hke] at hown ⊢; exact hown
      clear hown hke hp
      go_wp2
      go_ret
      exact ⟨rfl, hown', hb⟩
end Go.Proofs.Qxb6617386a
