/-
  The contract of 'concatB1' (19): a new slice that reads as the string's bytes, then the slice's.
-/
import Derived.Test.Qxb6617189aBytes
namespace Go.Proofs.Qxb6617189a
open Go.RowKit

theorem size_cat (p : ByteArray) (l : List UInt8) : (p.toList ++ l).length = p.size + l.length := by rw [List.length_append, size_toList]
theorem cat_left (p : ByteArray) (l : List UInt8) (k : Nat) (h : k < p.size) (h' : k < (p.toList ++ l).length) : cellOf (p.toList ++ l)[k] = .int .u8 (p[k].toNat : Int) := by
  have hk : k < p.toList.length := by rw [size_toList]; exact h
  rw [List.getElem_append_left hk]
  exact cellOf_at p k hk
theorem cat_right (p : ByteArray) (l : List UInt8) (j : Nat) (h : j < l.length) (h' : p.size + j < (p.toList ++ l).length) : cellOf (p.toList ++ l)[p.size + j] = .int .u8 (l[j].toNat : Int) := by
  have e : (p.toList ++ l)[p.size + j]? = l[j]? := by
    rw [List.getElem?_append_right (by rw [size_toList]; omega), size_toList, Nat.add_sub_cancel_left]
  rw [List.getElem?_eq_getElem h', List.getElem?_eq_getElem h] at e
  rw [Option.some.inj e]
  rfl

set_option maxHeartbeats 800000 in
theorem concat_core (p : ByteArray) (ao : Option Addr) (cap : Nat) (l : List UInt8) (w : World) (hsum : p.size + l.length ≤ 1048576)
    (hp : 0 < l.length → ∃ g, ao = some ⟨g, 0, none⟩ ∧ ∀ j (h : j < l.length), w.cell? ⟨g, j, none⟩ = some (.int .u8 (l[j].toNat : Int))) :
    Calls Try.prog 19 #[.string p, .slice ao l.length cap] w fun e w' => e = .returned (.slice (some ⟨w.heap.size, 0, none⟩) (p.size + l.length) (p.size + l.length)) ∧
      Row w' (.slice (some ⟨w.heap.size, 0, none⟩) (p.size + l.length) (p.size + l.length)) (p.toList ++ l) ∧ Below w.heap.size w w' := by
  obtain ⟨i0, hi, hz0, hz1, hz2⟩ := info_parts info5
  obtain ⟨L, hL⟩ : ∃ L, L = p.toList ++ l := ⟨_, rfl⟩
  have hLl : L.length = p.size + l.length := by rw [hL]; exact size_cat p l
  have HL : Hid (L = p.toList ++ l) := hL
  have HLl : Hid (L.length = p.size + l.length) := hLl
  rw [← hL]
  clear hL hLl
  go_enter Try.func19, Try.ntmps19
  go_wp2_with (at_make; refine wpList_make_full _ rfl (.tmp 12) (.tmp 12) 28 rfl w.heap.size 5 i0 (.int .u8 0) 1 Try.underlying28 hi hz0 hz1 .i64 .i64 _ _ (p.size + l.length) rfl rfl (by omega) (by omega) (by rw [hz2]; omega) (by unfold maxLen; omega) (Nat.le_refl _) ?_; intro w1 hown hgr)
  have hown0 : w1.ownsRow w.heap.size 5 1 (.slice (some ⟨w.heap.size, 0, none⟩) (p.size + l.length) (p.size + l.length)) (p.size + l.length) (fillTo L 0) := by
    rw [fillTo_zero, HLl.out]
    have e : (madeCells (Value.cells (.int .u8 0)) ((p.size + l.length) * 1)).toList = List.replicate (p.size + l.length) (.int .u8 0) := by rw [Nat.mul_one]; exact toList_madeCells_one _ _
    rw [← e]
    exact hown
  have hb0 : Below w.heap.size w w1 := (Below.refl _ _).grown hgr (Nat.le_refl _) (by simp)
  clear hown hgr hi hz0 hz1 hz2
  go_loopw [6] (fun i wr => ∃ k : Nat, k ≤ p.size ∧ i = .int .i64 k ∧ wr.ownsRow w.heap.size 5 1 (.slice (some ⟨w.heap.size, 0, none⟩) (p.size + l.length) (p.size + l.length)) (p.size + l.length) (fillTo L k) ∧ Below w.heap.size w wr) (fun i _ => p.size - (intOf i).toNat)
  case atStart => exact ⟨0, Nat.zero_le _, rfl, hown0, hb0⟩
  case round =>
    obtain ⟨k, hk, rfl, hown, hb⟩ := hrel
    clear hown0 hb0
    by_cases hlt : k < p.size
    · have hlt' : k < L.length := by rw [HLl.out]; omega
      have hlt2 : k < p.size + l.length := by omega
      have hf := hown.frozenAt k
      have hc := hown.cellAt k (by omega)
      obtain ⟨u, hu⟩ : ∃ u, (fillTo L k)[k]? = some u := ⟨_, List.getElem?_eq_getElem (by rw [fillTo_length]; exact hlt')⟩
      rw [hu] at hc
      have hst := (hown.stored k (cellOf L[k])).1
      rw [fillTo_set _ _ hlt'] at hst
      have hcel : cellOf L[k] = .int .u8 (p[k].toNat : Int) := by
        have h3 : k < (p.toList ++ l).length := by rw [size_cat]; omega
        have e : L[k] = (p.toList ++ l)[k] := by simp only [HL.out]
        rw [e]; exact cat_left p l k hlt h3
      rw [hcel] at hst
      have hb' : Below w.heap.size w (wr.setCell ⟨w.heap.size, k, none⟩ (.int .u8 (p[k].toNat : Int))) := hb.setCell (Nat.le_refl _) _
      clear hcel hu hown hb hlt' hp
      have H1 : Hid ((wr.setCell ⟨w.heap.size, k, none⟩ (.int .u8 (p[k].toNat : Int))).ownsRow w.heap.size 5 1 (.slice (some ⟨w.heap.size, 0, none⟩) (p.size + l.length) (p.size + l.length)) (p.size + l.length) (fillTo L (k + 1))) := hst
      have H2 : Hid (Below w.heap.size w (wr.setCell ⟨w.heap.size, k, none⟩ (.int .u8 (p[k].toNat : Int)))) := hb'
      clear hst hb'
      go_wp2
      go_roundw
      case rel => exact ⟨k + 1, by omega, by go_num, H1.out, H2.out⟩
      case measure => simp [intOf]; omega
    · obtain rfl : k = p.size := by omega
      clear hlt hk
      go_wp2
      go_loopw [7] (fun i wr => ∃ j : Nat, j ≤ l.length ∧ i = .int .i64 j ∧ wr.ownsRow w.heap.size 5 1 (.slice (some ⟨w.heap.size, 0, none⟩) (p.size + l.length) (p.size + l.length)) (p.size + l.length) (fillTo L (p.size + j)) ∧ Below w.heap.size w wr) (fun i _ => l.length - (intOf i).toNat)
      case atStart => exact ⟨0, Nat.zero_le _, rfl, hown, hb⟩
      case round =>
        clear hown hb
        obtain ⟨j, hj, rfl, hown, hb⟩ := hrel
        by_cases hlt : j < l.length
        · obtain ⟨g, rfl, hcb⟩ := hp (by omega)
          have hcw := hcb j hlt
          have hck : wr.cell? ⟨g, j, none⟩ = some (.int .u8 (l[j].toNat : Int)) := (hb.cell (p := ⟨g, j, none⟩) (World.block_lt_of_cell? w _ hcw)).trans hcw
          have hlt' : p.size + j < L.length := by rw [HLl.out]; omega
          have hf := hown.frozenAt (p.size + j)
          have hc := hown.cellAt (p.size + j) (by omega)
          obtain ⟨u, hu⟩ : ∃ u, (fillTo L (p.size + j))[p.size + j]? = some u := ⟨_, List.getElem?_eq_getElem (by rw [fillTo_length]; exact hlt')⟩
          rw [hu] at hc
          have hst := (hown.stored (p.size + j) (cellOf L[p.size + j])).1
          rw [fillTo_set _ _ hlt'] at hst
          have hcel : cellOf L[p.size + j] = .int .u8 (l[j].toNat : Int) := by
            have h3 : p.size + j < (p.toList ++ l).length := by rw [size_cat]; omega
            have e : L[p.size + j] = (p.toList ++ l)[p.size + j] := by simp only [HL.out]
            rw [e]; exact cat_right p l j hlt h3
          rw [hcel] at hst
          have H1 : Hid ((wr.setCell ⟨w.heap.size, p.size + j, none⟩ (.int .u8 (l[j].toNat : Int))).ownsRow w.heap.size 5 1 (.slice (some ⟨w.heap.size, 0, none⟩) (p.size + l.length) (p.size + l.length)) (p.size + l.length) (fillTo L (p.size + (j + 1)))) := hst
          have H2 : Hid (Below w.heap.size w (wr.setCell ⟨w.heap.size, p.size + j, none⟩ (.int .u8 (l[j].toNat : Int)))) := hb.setCell (Nat.le_refl _) _
          clear hcel hu hown hb hlt' hp hst hcb hcw
          go_wp2
          go_roundw
          case rel => exact ⟨j + 1, by omega, by go_num, H1.out, H2.out⟩
          case measure => simp [intOf]; omega
        · obtain rfl : j = l.length := by omega
          have hown' : wr.ownsRow w.heap.size 5 1 (.slice (some ⟨w.heap.size, 0, none⟩) (p.size + l.length) (p.size + l.length)) (p.size + l.length) (L.map cellOf) := by
            rw [← fillTo_all, HLl.out]; exact hown
          have hrow := Row.of_owns HLl.out hown'
          clear hown' hown hp
          go_wp2
          go_ret
          exact ⟨rfl, hrow, hb⟩

theorem concat_any (p : ByteArray) (ao : Option Addr) (n cap : Nat) (l : List UInt8) (w : World) (hsum : p.size + l.length ≤ 1048576) (h : Row w (.slice ao n cap) l) :
    Calls Try.prog 19 #[.string p, .slice ao n cap] w fun e w' => e = .returned (.slice (some ⟨w.heap.size, 0, none⟩) (p.size + l.length) (p.size + l.length)) ∧
      Row w' (.slice (some ⟨w.heap.size, 0, none⟩) (p.size + l.length) (p.size + l.length)) (p.toList ++ l) ∧ Below w.heap.size w w' := by
  rcases h with ⟨hv, rfl⟩ | ⟨g, cap', hv, hc⟩
  · simp only [Value.slice.injEq] at hv
    obtain ⟨rfl, rfl, rfl⟩ := hv
    exact concat_core p none 0 [] w hsum (fun h => absurd h (by simp))
  · simp only [Value.slice.injEq] at hv
    obtain ⟨rfl, rfl, rfl⟩ := hv
    exact concat_core p _ _ l w hsum (fun _ => ⟨g, rfl, hc⟩)
end Go.Proofs.Qxb6617189a
