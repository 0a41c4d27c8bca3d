/-
  Plain laws on lists of bytes: no Go function in sight. 'cmpL': the order that 'compareStringBytes' answers.
-/
import Derived.WalkKit
namespace Go.Proofs.Qxb6617189a
open Go.RowKit

/-- -1, 0 or 1 as a lies before, at or behind b in the order of bytes. -/
def cmpL (a b : List UInt8) : Int := if (a == b) = true then 0 else if Op.bytesLess a b = true then -1 else 1

theorem cmpL_nil_nil : cmpL [] [] = 0 := rfl
theorem cmpL_nil_cons (b : UInt8) (y : List UInt8) : cmpL [] (b :: y) = -1 := rfl
theorem cmpL_cons_nil (a : UInt8) (x : List UInt8) : cmpL (a :: x) [] = 1 := rfl
theorem cmpL_cons_same (a : UInt8) (x y : List UInt8) : cmpL (a :: x) (a :: y) = cmpL x y := by
  have h : ¬ a < a := by simp
  simp [cmpL, Op.bytesLess, h]
theorem cmpL_cons_lt (a b : UInt8) (x y : List UInt8) (h : a < b) : cmpL (a :: x) (b :: y) = -1 := by
  have hn : ¬ a = b := by rintro rfl; simp at h
  simp [cmpL, Op.bytesLess, h, hn]
theorem cmpL_cons_gt (a b : UInt8) (x y : List UInt8) (h : b < a) : cmpL (a :: x) (b :: y) = 1 := by
  have hn : ¬ a = b := by rintro rfl; simp at h
  have hl : ¬ a < b := by
    rw [UInt8.lt_iff_toNat_lt] at h ⊢
    omega
  simp [cmpL, Op.bytesLess, hl, hn]

/-- What both begin with takes no part. -/
theorem cmpL_common (p a b : List UInt8) : cmpL (p ++ a) (p ++ b) = cmpL a b := by
  induction p with
  | nil => rfl
  | cons c p ih => rw [List.cons_append, List.cons_append, cmpL_cons_same, ih]

/-- The two sides swapped: the sign turns. -/
theorem cmpL_swap : ∀ a b : List UInt8, cmpL b a = - cmpL a b
  | [], [] => rfl
  | [], _ :: _ => rfl
  | _ :: _, [] => rfl
  | a :: x, b :: y => by
    by_cases h : a = b
    · subst h
      rw [cmpL_cons_same, cmpL_cons_same, cmpL_swap x y]
    · by_cases hl : a < b
      · rw [cmpL_cons_lt a b x y hl, cmpL_cons_gt b a y x hl]
        rfl
      · have hg : b < a := by
          rw [UInt8.lt_iff_toNat_lt] at hl ⊢
          have hne : a.toNat ≠ b.toNat := fun e => h (UInt8.toNat_inj.1 e)
          omega
        rw [cmpL_cons_gt a b x y hg, cmpL_cons_lt b a y x hg]

theorem cmpL_range (a b : List UInt8) : cmpL a b = 0 ∨ cmpL a b = -1 ∨ cmpL a b = 1 := by
  unfold cmpL
  split
  · exact .inl rfl
  · split
    · exact .inr (.inl rfl)
    · exact .inr (.inr rfl)

/-- Of two lists that agree in their first k bytes, the rest decides. -/
theorem cmpL_drop (a b : List UInt8) (k : Nat) (h : a.take k = b.take k) : cmpL a b = cmpL (a.drop k) (b.drop k) := by
  conv => lhs; rw [← List.take_append_drop k a, ← List.take_append_drop k b, h]
  exact cmpL_common _ _ _

theorem cmpL_at_lt (a b : List UInt8) (k : Nat) (h : a.take k = b.take k) (ha : k < a.length) (hb : k < b.length) (hl : a[k] < b[k]) : cmpL a b = -1 := by
  rw [cmpL_drop a b k h, List.drop_eq_getElem_cons ha, List.drop_eq_getElem_cons hb]
  exact cmpL_cons_lt _ _ _ _ hl
theorem cmpL_at_gt (a b : List UInt8) (k : Nat) (h : a.take k = b.take k) (ha : k < a.length) (hb : k < b.length) (hl : b[k] < a[k]) : cmpL a b = 1 := by
  rw [cmpL_drop a b k h, List.drop_eq_getElem_cons ha, List.drop_eq_getElem_cons hb]
  exact cmpL_cons_gt _ _ _ _ hl
theorem cmpL_end_lt (a b : List UInt8) (k : Nat) (h : a.take k = b.take k) (ha : a.length ≤ k) (hb : k < b.length) : cmpL a b = -1 := by
  rw [cmpL_drop a b k h, List.drop_eq_nil_of_le ha, List.drop_eq_getElem_cons hb]
  rfl
theorem cmpL_end_gt (a b : List UInt8) (k : Nat) (h : a.take k = b.take k) (ha : k < a.length) (hb : b.length ≤ k) : cmpL a b = 1 := by
  rw [cmpL_drop a b k h, List.drop_eq_nil_of_le hb, List.drop_eq_getElem_cons ha]
  rfl
theorem cmpL_end_eq (a b : List UInt8) (k : Nat) (h : a.take k = b.take k) (ha : a.length ≤ k) (hb : b.length ≤ k) : cmpL a b = 0 := by
  rw [cmpL_drop a b k h, List.drop_eq_nil_of_le hb, List.drop_eq_nil_of_le ha]
  rfl
theorem take_step (a b : List UInt8) (k : Nat) (h : a.take k = b.take k) (ha : k < a.length) (hb : k < b.length) (he : a[k] = b[k]) : a.take (k + 1) = b.take (k + 1) := by
  rw [List.take_succ_eq_append_getElem ha, List.take_succ_eq_append_getElem hb, h, he]

/-! ### Cells -/
/-- A byte as a cell holds it. -/
def cellOf (c : UInt8) : Value := .int .u8 (c.toNat : Int)
/-- The row of a slice of l.length bytes of which the first k are filled, the rest zero. -/
def fillTo (l : List UInt8) (k : Nat) : List Value := (l.take k).map cellOf ++ List.replicate (l.length - k) (.int .u8 0)
theorem fillTo_zero (l : List UInt8) : fillTo l 0 = List.replicate l.length (.int .u8 0) := by simp [fillTo]
theorem fillTo_all (l : List UInt8) : fillTo l l.length = l.map cellOf := by simp [fillTo]
theorem fillTo_length (l : List UInt8) (k : Nat) : (fillTo l k).length = l.length := by simp [fillTo]; omega
theorem fillTo_set (l : List UInt8) (k : Nat) (h : k < l.length) : (fillTo l k).set k (cellOf l[k]) = fillTo l (k + 1) := by
  unfold fillTo
  have hl : ((l.take k).map cellOf).length = k := by simp; omega
  have hr : l.length - k = (l.length - (k + 1)) + 1 := by omega
  rw [List.set_append_right _ _ (by omega), hl, Nat.sub_self, List.take_succ_eq_append_getElem h, hr, List.replicate_succ, List.set_cons_zero, List.map_append, List.append_assoc]
  rfl

/-- THE SLICE VALUE v READS, IN THE WORLD w, AS THE BYTES l: nil and no byte; or it begins at a block's head. -/
def Row (w : World) (v : Value) (l : List UInt8) : Prop :=
  (v = .slice none 0 0 ∧ l = []) ∨
  ∃ g cap, v = .slice (some ⟨g, 0, none⟩) l.length cap ∧ ∀ j (h : j < l.length), w.cell? ⟨g, j, none⟩ = some (.int .u8 (l[j].toNat : Int))

theorem Row.kept {w w' : World} {v : Value} {l : List UInt8} (h : Row w v l) (hb : Below w.heap.size w w') : Row w' v l := by
  rcases h with h | ⟨g, cap, hv, hc⟩
  · exact .inl h
  · exact .inr ⟨g, cap, hv, fun j hj => (hb.cell (p := ⟨g, j, none⟩) (World.block_lt_of_cell? w _ (hc j hj))).trans (hc j hj)⟩

theorem Row.of_owns {w : World} {base g n : Nat} {l : List UInt8} (hn : l.length = n) (h : w.ownsRow base 5 1 (.slice (some ⟨g, 0, none⟩) n n) n (l.map cellOf)) : Row w (.slice (some ⟨g, 0, none⟩) n n) l := by
  subst hn
  refine .inr ⟨g, _, rfl, fun j hj => ?_⟩
  rw [h.cellAt j (by omega)]
  simp [List.getElem?_eq_getElem hj, cellOf]
end Go.Proofs.Qxb6617189a
