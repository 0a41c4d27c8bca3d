/-
  Plain laws on lists of numbers, and what a slice of them reads as: no Go function in sight.
-/
import Derived.WalkKit
namespace Go.Proofs.Qxb6617386a
open Go.RowKit

/-- Is x among the numbers? -/
def hasB (l : List Int) (x : Int) : Bool := l.any (fun y => y == x)

theorem hasB_nil (x : Int) : hasB [] x = false := rfl
theorem hasB_append (a b : List Int) (x : Int) : hasB (a ++ b) x = (hasB a x || hasB b x) := by simp [hasB]
theorem hasB_snoc (l : List Int) (k : Nat) (h : k < l.length) (x : Int) : hasB (l.take (k + 1)) x = (hasB (l.take k) x || (l[k] == x)) := by
  rw [List.take_succ_eq_append_getElem h, hasB_append]
  simp [hasB]
theorem hasB_take_drop (l : List Int) (k : Nat) (x : Int) : hasB l x = (hasB (l.take k) x || hasB (l.drop k) x) := by
  rw [← hasB_append, List.take_append_drop]
theorem hasB_hit (l : List Int) (k : Nat) (h : k < l.length) (x : Int) (he : l[k] = x) : hasB l x = true := by
  rw [hasB_take_drop l (k + 1), hasB_snoc l k h]
  simp [he]
theorem hasB_reverse (l : List Int) (x : Int) : hasB l.reverse x = hasB l x := by simp [hasB]

/-- THE SLICE VALUE v READS, IN THE WORLD w, AS THE NUMBERS l. (Of an empty slice's address nothing is said.) -/
def Row (w : World) (v : Value) (l : List Int) : Prop :=
  ∃ ao cap, v = .slice ao l.length cap ∧ (0 < l.length → ∃ g off, ao = some ⟨g, off, none⟩ ∧ ∀ j (h : j < l.length), w.cell? ⟨g, off + j, none⟩ = some (.int .u64 l[j]))

theorem Row.kept {w w' : World} {v : Value} {l : List Int} (h : Row w v l) (hb : Below w.heap.size w w') : Row w' v l := by
  obtain ⟨ao, cap, hv, hp⟩ := h
  refine ⟨ao, cap, hv, fun h0 => ?_⟩
  obtain ⟨g, off, ha, hc⟩ := hp h0
  exact ⟨g, off, ha, fun j hj => (hb.cell (p := ⟨g, off + j, none⟩) (World.block_lt_of_cell? w _ (hc j hj))).trans (hc j hj)⟩

/-- The row of a slice of l.length numbers of which the first k are filled, the rest zero. -/
def fillTo (l : List Int) (k : Nat) : List Value := (l.take k).map (Value.int .u64) ++ List.replicate (l.length - k) (.int .u64 0)
theorem fillTo_zero (l : List Int) : fillTo l 0 = List.replicate l.length (.int .u64 0) := by simp [fillTo]
theorem fillTo_all (l : List Int) : fillTo l l.length = l.map (Value.int .u64) := by simp [fillTo]
theorem fillTo_length (l : List Int) (k : Nat) : (fillTo l k).length = l.length := by simp [fillTo]; omega
theorem fillTo_set (l : List Int) (k : Nat) (h : k < l.length) : (fillTo l k).set k (.int .u64 l[k]) = fillTo l (k + 1) := by
  unfold fillTo
  have hl : ((l.take k).map (Value.int .u64)).length = k := by simp; omega
  have hr : l.length - k = (l.length - (k + 1)) + 1 := by omega
  rw [List.set_append_right _ _ (by omega), hl, Nat.sub_self, List.take_succ_eq_append_getElem h, hr, List.replicate_succ, List.set_cons_zero, List.map_append, List.append_assoc]
  rfl

/-- What the call itself made and filled: nil and no number, or a block's whole row. -/
def Own (w : World) (B : Nat) (v : Value) (l : List Int) : Prop := w.ownsRow B 23 1 v l.length (l.map (Value.int .u64))

theorem Own.cells {w : World} {B : Nat} {v : Value} {l : List Int} (h : Own w B v l) : (v = .slice none 0 0 ∧ l = []) ∨ ∃ g cap, v = .slice (some ⟨g, 0, none⟩) l.length cap ∧ B ≤ g ∧ l.length ≤ cap ∧ cap ≤ maxLen ∧ ∀ j (hj : j < l.length), w.cell? ⟨g, j, none⟩ = some (.int .u64 l[j]) := by
  have h2 := h.2
  rcases h2 with ⟨hv, hn⟩ | ⟨g, cap, cur, hv, hB, hg, hc, hm, _, _⟩
  · exact .inl ⟨hv, List.eq_nil_of_length_eq_zero hn⟩
  · refine .inr ⟨g, cap, hv, hB, hc, hm, fun j hj => ?_⟩
    subst hv
    have := h.cellAt j (by omega)
    rw [this]
    simp [List.getElem?_eq_getElem hj]

theorem Own.row {w : World} {B : Nat} {v : Value} {l : List Int} (h : Own w B v l) : Row w v l := by
  rcases h.cells with ⟨rfl, rfl⟩ | ⟨g, cap, rfl, _, _, _, hc⟩
  · exact ⟨none, 0, rfl, fun h0 => absurd h0 (by simp)⟩
  · exact ⟨_, _, rfl, fun _ => ⟨g, 0, rfl, fun j hj => by rw [Nat.zero_add]; exact hc j hj⟩⟩
end Go.Proofs.Qxb6617386a
