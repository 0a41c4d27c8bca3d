/-
  The walk of 'FnHasSplitInsertRemove' (3); 'zzBytes_FnHasSplitInsertRemove' (5).
-/
import Derived.Test.Qxb6617386aOrder
import Derived.Maps.AppendAt
namespace Go.Proofs.Qxb6617386a
open Go.RowKit

theorem zz5_any (ao : Option Addr) (len cap : Nat) (x i : Int) (w : World) (hl : len ≤ maxLen) :
    Calls Try.prog 5 #[.slice ao len cap, .int .u64 x, .int .i64 i] w fun e w' => e = .returned (.bool (decide ((len : Int) ≤ 1048576))) ∧ w' = w := by
  unfold maxLen at hl
  by_cases h : (len : Int) ≤ 1048576
  all_goals
    go_enter Try.func5, Try.ntmps5
    go_wp2
    go_ret
    exact ⟨ret_bool (by simp [h]), rfl⟩

theorem zz5_yes (ao : Option Addr) (len cap : Nat) (x i : Int) (w : World) (hl : len ≤ 65536) :
    Calls Try.prog 5 #[.slice ao len cap, .int .u64 x, .int .i64 i] w fun e w' => e = .returned (.bool true) ∧ w' = w := by
  have h := zz5_any ao len cap x i w (by unfold maxLen; omega)
  have hdec : decide ((len : Int) ≤ 1048576) = true := by simp; omega
  rw [hdec] at h
  exact h

/-- More than 65536 numbers: the law answers at once. -/
theorem splitBig (ao : Option Addr) (len cap : Nat) (id i : Int) (w : World) (hl : len ≤ maxLen) (hb : 65536 < len) :
    Calls Try.prog 3 #[.slice ao len cap, .int .u64 id, .int .i64 i] w fun e w' => e = .returned (.bool true) ∧ Below w.heap.size w w' := by
  by_cases h : (len : Int) ≤ 1048576
  · have hd : decide ((len : Int) ≤ 1048576) = true := by simp; omega
    go_enter Try.func3, Try.ntmps3
    go_wp2_with (go_at_call 5; refine (zz5_any _ _ _ _ _ _ hl).mono ?_; rintro e w' ⟨rfl, hw⟩; obtain rfl := hw.symm)
    go_ret
    exact ⟨rfl, Below.refl _ _⟩
  · have hd : decide ((len : Int) ≤ 1048576) = false := by simp; omega
    go_enter Try.func3, Try.ntmps3
    go_wp2_with (go_at_call 5; refine (zz5_any _ _ _ _ _ _ hl).mono ?_; rintro e w' ⟨rfl, hw⟩; obtain rfl := hw.symm)
    go_ret
    exact ⟨rfl, Below.refl _ _⟩

/-- No such cut: the law answers at once. -/
theorem splitOutside (ao : Option Addr) (len cap : Nat) (id i : Int) (w : World) (hl : len ≤ 65536) (hb : i < 0 ∨ (len : Int) < i) :
    Calls Try.prog 3 #[.slice ao len cap, .int .u64 id, .int .i64 i] w fun e w' => e = .returned (.bool true) ∧ Below w.heap.size w w' := by
  rcases hb with h | h
  · go_enter Try.func3, Try.ntmps3
    go_wp2_with (go_at_call 5; refine (zz5_yes _ _ _ _ _ _ hl).mono ?_; rintro e w' ⟨rfl, hw⟩; obtain rfl := hw.symm)
    go_ret
    exact ⟨rfl, Below.refl _ _⟩
  · go_enter Try.func3, Try.ntmps3
    go_wp2_with (go_at_call 5; refine (zz5_yes _ _ _ _ _ _ hl).mono ?_; rintro e w' ⟨rfl, hw⟩; obtain rfl := hw.symm)
    go_ret
    exact ⟨rfl, Below.refl _ _⟩

/-! ### Plain: what the two made lists hold -/
/-- Of the first i numbers those that are not x. -/
def dropTo (l : List Int) (x : Int) (i : Nat) : List Int := (l.take i).filter (fun y => y != x)
theorem dropTo_zero (l : List Int) (x : Int) : dropTo l x 0 = [] := by simp [dropTo]
theorem dropTo_le (l : List Int) (x : Int) (i : Nat) : (dropTo l x i).length ≤ i := by
  have h1 := List.length_filter_le (fun y => y != x) (l.take i)
  have h2 := List.length_take_le i l
  unfold dropTo
  omega
theorem dropTo_keep (l : List Int) (x : Int) (i : Nat) (h : i < l.length) (hk : (l[i] != x) = true) : dropTo l x (i + 1) = dropTo l x i ++ [l[i]] := by
  unfold dropTo
  rw [List.take_succ_eq_append_getElem h, List.filter_append]
  simp [hk]
theorem dropTo_skip (l : List Int) (x : Int) (i : Nat) (h : i < l.length) (hk : (l[i] != x) = false) : dropTo l x (i + 1) = dropTo l x i := by
  unfold dropTo
  rw [List.take_succ_eq_append_getElem h, List.filter_append]
  simp [hk]
theorem dropTo_all (l : List Int) (x : Int) : dropTo l x l.length = l.filter (fun y => y != x) := by simp [dropTo]
theorem hasB_dropped (l : List Int) (x : Int) : hasB (l.filter (fun y => y != x)) x = false := by
  simp [hasB]
/-- Dropping x shortens the list just where x is in it. -/
theorem dropped_length (l : List Int) (x : Int) : (((l.filter (fun y => y != x)).length : Int) != (l.length : Int)) = hasB l x := by
  induction l with
  | nil => rfl
  | cons a l ih =>
    have hle := List.length_filter_le (fun y => y != x) l
    by_cases h : a = x
    · subst h
      simp [hasB]
      omega
    · have e1 : (a != x) = true := by simp [h]
      have e2 : (a == x) = false := by simp [h]
      have e3 : hasB (a :: l) x = hasB l x := by simp [hasB, e2]
      rw [List.filter_cons_of_pos (by simpa using e1), e3, ← ih]
      rw [Bool.eq_iff_iff]
      simp
/-- x put in at place k. -/
def ins (l : List Int) (k : Nat) (x : Int) : List Int := l.take k ++ x :: l.drop k
theorem ins_length (l : List Int) (k : Nat) (x : Int) (h : k ≤ l.length) : (ins l k x).length = l.length + 1 := by simp [ins]; omega
theorem ins_first (l : List Int) (k : Nat) (x : Int) (h : k ≤ l.length) : (ins l k x).take (k + 1) = l.take k ++ [x] := by
  unfold ins
  have hl : (l.take k).length = k := by simp; omega
  rw [List.take_append, hl, List.take_of_length_le (by omega)]
  simp
theorem ins_at (l : List Int) (k i : Nat) (x : Int) (hk : k ≤ i) (h : i < l.length) (hlen : i + 1 < (ins l k x).length) : (ins l k x)[i + 1] = l[i] := by
  have hl : (l.take k).length = k := by simp; omega
  have e : (ins l k x)[i + 1]? = l[i]? := by
    unfold ins
    rw [List.getElem?_append_right (by omega), hl, show i + 1 - k = (i - k) + 1 by omega, List.getElem?_cons_succ, List.getElem?_drop]
    congr 1
    omega
  rw [List.getElem?_eq_getElem hlen, List.getElem?_eq_getElem h] at e
  exact Option.some.inj e
theorem ins_step (l : List Int) (k i : Nat) (x : Int) (hk : k ≤ i) (h : i < l.length) : (ins l k x).take (i + 1 + 1) = (ins l k x).take (i + 1) ++ [l[i]] := by
  have hlen : i + 1 < (ins l k x).length := by rw [ins_length l k x (by omega)]; omega
  rw [List.take_succ_eq_append_getElem hlen, ins_at l k i x hk h hlen]
theorem hasB_ins (l : List Int) (k : Nat) (x : Int) : hasB (ins l k x) x = true := by simp [hasB, ins]

theorem cell_kept {w w' : World} {a : Addr} {v : Value} (hb : Below w.heap.size w w') (h : w.cell? a = some v) : w'.cell? a = some v :=
  (hb.cell (World.block_lt_of_cell? w _ h)).trans h

theorem row_take {w : World} {g k : Nat} {l : List Int} (hk : k ≤ l.length) (h : ∀ j (hj : j < l.length), w.cell? ⟨g, j, none⟩ = some (.int .u64 l[j])) :
    Row w (.slice (some ⟨g, 0, none⟩) k l.length) (l.take k) := by
  have hl : (l.take k).length = k := by rw [List.length_take]; omega
  refine ⟨_, _, by rw [hl], fun _ => ⟨g, 0, rfl, fun j hj => ?_⟩⟩
  rw [Nat.zero_add, h j (by omega)]
  simp
theorem row_drop {w : World} {g k : Nat} {l : List Int} (h : ∀ j (hj : j < l.length), w.cell? ⟨g, j, none⟩ = some (.int .u64 l[j])) :
    Row w (.slice (some ⟨g, k, none⟩) (l.length - k) (l.length - k)) (l.drop k) := by
  refine ⟨_, _, by rw [List.length_drop], fun _ => ⟨g, k, rfl, fun j hj => ?_⟩⟩
  rw [List.length_drop] at hj
  rw [h (k + j) (by omega)]
  simp
theorem row_none (w : World) (ao : Option Addr) (cap : Nat) : Row w (.slice ao 0 cap) [] := ⟨ao, cap, rfl, fun h => absurd h (by simp)⟩

set_option maxHeartbeats 1000000 in
theorem splitMain (x : Addr) (cap : Nat) (l : List Int) (id : Int) (k : Nat) (w : World) (hl : l.length ≤ 65536) (hk : k ≤ l.length) (h : Row w (.slice (some x) l.length cap) l) :
    Calls Try.prog 3 #[.slice (some x) l.length cap, .int .u64 id, .int .i64 k] w fun e w' => e = .returned (.bool true) ∧ Below w.heap.size w w' := by
  obtain ⟨i0, hinf, hz0, hz1, hz2⟩ := info_parts info23
  go_enter Try.func3, Try.ntmps3
  go_wp2_with (first | (go_at_call 5; refine (zz5_yes _ _ _ _ _ _ hl).mono ?_; rintro e w' ⟨rfl, hw⟩; obtain rfl := hw.symm) | (go_at_call 6; refine (clone_some x cap l _ hl h).mono ?_; rintro e w1 ⟨rfl, hown, hb1⟩) | (at_make; refine wpList_make_own _ rfl (.const (.int .i64 0)) (.tmp 37) 22 rfl w1.heap.size 23 i0 (.int .u64 0) 1 Try.underlying22 hinf hz0 hz1 .i64 .i64 l.length l.length rfl rfl rfl (by rw [hz2]; omega) (by unfold maxLen; omega) (Nat.le_refl _) ?_; intro w2 hownR hgr2))
  have hb2 : Below w1.heap.size w1 w2 := (Below.refl _ _).grown hgr2 (Nat.le_refl _) (by simp)
  have hsz : w.heap.size ≤ w1.heap.size := hb1.size
  clear hgr2 h
  go_loopw [7, 8] (fun v t wr => ∃ i : Nat, i ≤ l.length ∧ t = .int .i64 i ∧ v = .slice (some ⟨w1.heap.size, 0, none⟩) (dropTo l id i).length l.length ∧ wr.ownsRow w1.heap.size 23 1 (.slice (some ⟨w1.heap.size, 0, none⟩) (dropTo l id i).length l.length) (dropTo l id i).length ((dropTo l id i).map (Value.int .u64)) ∧ Below w1.heap.size w1 wr) (fun _ t _ => l.length - (intOf t).toNat)
  case atStart => exact ⟨0, Nat.zero_le _, rfl, rfl, hownR, hb2⟩
  case round =>
    clear hownR hb2
    obtain ⟨i, hi, rfl, rfl, hownR, hb2⟩ := hrel
    by_cases hlt : i < l.length
    · have hck := cell_kept hb2 (own_at hown i hlt)
      have hdl := dropTo_le l id i
      cases hne : (l[i] != id)
      · have HD : Hid _ := dropTo_skip l id i hlt hne
        go_wp2
        go_roundw
        case rel =>
          refine ⟨i + 1, by omega, by go_num, ?_, ?_, hb2⟩
          · rw [HD.out]
          · rw [HD.out]; exact hownR
        case measure => simp [intOf]; omega
      · have HD : Hid _ := dropTo_keep l id i hlt hne
        go_wp2_with (at_builtin; refine wpList_append_fits _ rfl (.tmp 51) (.tmp 56) 22 rfl w1.heap.size 23 i0 1 Try.underlying22 hinf hz1 w1.heap.size (dropTo l id i).length l.length ((dropTo l id i).map (Value.int .u64)) rfl (hownR.alloc _) ⟨wr.heap.size, 0, none⟩ 1 1 [.int .u64 l[i]] rfl rfl (cell_one_new _ _ _) (by intro u hu; simp at hu; subst hu; rfl) (by omega) ?_; intro w4 hown4 hgr4)
        have hb4 : Below w1.heap.size w1 w4 := (hb2.alloc hb2.size _).grown hgr4 (by have := hb2.size; simp; omega) (by intro k hk; simp at hk; omega)
        have hown5 : w4.ownsRow w1.heap.size 23 1 (.slice (some ⟨w1.heap.size, 0, none⟩) (dropTo l id (i + 1)).length l.length) (dropTo l id (i + 1)).length ((dropTo l id (i + 1)).map (Value.int .u64)) := by
          rw [HD.out, List.length_append, List.map_append]; exact hown4
        clear hgr4 hck hownR hown4
        go_wp2
        go_roundw
        case rel =>
          refine ⟨i + 1, by omega, by go_num, ?_, hown5, hb4⟩
          rw [HD.out]; simp
        case measure => simp [intOf]; omega
    · have hie : i = l.length := by omega
      subst hie
      have hownR' : Own wr w1.heap.size (.slice (some ⟨w1.heap.size, 0, none⟩) (l.filter (fun y => y != id)).length l.length) (l.filter (fun y => y != id)) := by
        rw [dropTo_all] at hownR; exact hownR
      have hrowR := hownR'.row
      have hrowI : Row wr (.slice (some ⟨w.heap.size, 0, none⟩) l.length l.length) l := hown.row.kept hb2
      have hcI : ∀ j (hj : j < l.length), wr.cell? ⟨w.heap.size, j, none⟩ = some (.int .u64 l[j]) := fun j hj => cell_kept hb2 (own_at hown j hj)
      have hbel : Below w.heap.size w wr := hb1.trans (hb2.mono hsz)
      rw [dropTo_all]
      obtain ⟨R, hR⟩ : ∃ R, R = l.filter (fun y => y != id) := ⟨_, rfl⟩
      rw [← hR] at hrowR ⊢
      have hRl : ((R.length : Int) != (l.length : Int)) = hasB l id := by rw [hR]; exact dropped_length l id
      have hRh : hasB R id = false := by rw [hR]; exact hasB_dropped l id
      have hRle : R.length ≤ l.length := by rw [hR]; exact List.length_filter_le _ _
      clear hR hownR hownR' hown hb1 hb2
      obtain ⟨w3, rfl⟩ : ∃ w3, w3 = wr := ⟨_, rfl⟩
      go_wp2_with (at_make; refine wpList_make_own _ rfl (.const (.int .i64 0)) (.tmp 65) 22 rfl w3.heap.size 23 i0 (.int .u64 0) 1 Try.underlying22 hinf hz0 hz1 .i64 .i64 _ (l.length + 1) rfl rfl (by omega) (by rw [hz2]; omega) (by unfold maxLen; omega) (Nat.le_refl _) ?_; intro w4 hownV hgr4)
      have hb4 : Below w3.heap.size w3 w4 := (Below.refl _ _).grown hgr4 (Nat.le_refl _) (by simp)
      clear hgr4 hRl
      go_loopw [10, 11] (fun v t wr => ∃ i : Nat, i ≤ k ∧ t = .int .i64 i ∧ v = .slice (some ⟨w3.heap.size, 0, none⟩) i (l.length + 1) ∧ wr.ownsRow w3.heap.size 23 1 (.slice (some ⟨w3.heap.size, 0, none⟩) i (l.length + 1)) i ((l.take i).map (Value.int .u64)) ∧ Below w3.heap.size w3 wr) (fun _ t _ => k - (intOf t).toNat)
      case atStart => exact ⟨0, Nat.zero_le _, rfl, rfl, hownV, hb4⟩
      case round =>
        clear hownV hb4
        obtain ⟨i, hi, rfl, rfl, hownV, hb4⟩ := hrel
        by_cases hlt2 : i < k
        · have hil : i < l.length := by omega
          have hck := cell_kept hb4 (hcI i hil)
          have HT : Hid (l.take (i + 1) = l.take i ++ [l[i]]) := List.take_succ_eq_append_getElem hil
          go_wp2_with (at_builtin; refine wpList_append_fits _ rfl (.tmp 72) (.tmp 77) 22 rfl w3.heap.size 23 i0 1 Try.underlying22 hinf hz1 w3.heap.size i (l.length + 1) ((l.take i).map (Value.int .u64)) rfl (hownV.alloc _) ⟨wr.heap.size, 0, none⟩ 1 1 [.int .u64 l[i]] rfl rfl (cell_one_new _ _ _) (by intro u hu; simp at hu; subst hu; rfl) (by omega) ?_; intro w5 hown5 hgr5)
          have hb5 : Below w3.heap.size w3 w5 := (hb4.alloc hb4.size _).grown hgr5 (by have := hb4.size; simp; omega) (by intro k hk; simp at hk; omega)
          have hown6 : w5.ownsRow w3.heap.size 23 1 (.slice (some ⟨w3.heap.size, 0, none⟩) (i + 1) (l.length + 1)) (i + 1) ((l.take (i + 1)).map (Value.int .u64)) := by
            rw [HT.out, List.map_append]; exact hown5
          clear hgr5 hck hownV hown5
          go_wp2
          go_roundw
          case rel => exact ⟨i + 1, by omega, by go_num, rfl, hown6, hb5⟩
          case measure => simp [intOf]; omega
        · have hik : i = k := by omega
          subst hik
          clear hlt2
          go_wp2_with (at_builtin; refine wpList_append_fits _ rfl (.tmp 79) (.tmp 81) 22 rfl w3.heap.size 23 i0 1 Try.underlying22 hinf hz1 w3.heap.size i (l.length + 1) ((l.take i).map (Value.int .u64)) rfl (hownV.alloc _) ⟨wr.heap.size, 0, none⟩ 1 1 [.int .u64 id] rfl rfl (cell_one_new _ _ _) (by intro u hu; simp at hu; subst hu; rfl) (by omega) ?_; intro w5 hown5 hgr5)
          have hb5 : Below w3.heap.size w3 w5 := (hb4.alloc hb4.size _).grown hgr5 (by have := hb4.size; simp; omega) (by intro k hk; simp at hk; omega)
          have hown6 : w5.ownsRow w3.heap.size 23 1 (.slice (some ⟨w3.heap.size, 0, none⟩) (i + 1) (l.length + 1)) (i + 1) (((ins l i id).take (i + 1)).map (Value.int .u64)) := by
            rw [ins_first l i id hk, List.map_append]; exact hown5
          clear hgr5 hownV hown5 hb4
          go_loopw [10, 12] (fun v t wr => ∃ j : Nat, i ≤ j ∧ j ≤ l.length ∧ t = .int .i64 j ∧ v = .slice (some ⟨w3.heap.size, 0, none⟩) (j + 1) (l.length + 1) ∧ wr.ownsRow w3.heap.size 23 1 (.slice (some ⟨w3.heap.size, 0, none⟩) (j + 1) (l.length + 1)) (j + 1) (((ins l i id).take (j + 1)).map (Value.int .u64)) ∧ Below w3.heap.size w3 wr) (fun _ t _ => l.length - (intOf t).toNat)
          case atStart => exact ⟨i, Nat.le_refl _, hk, rfl, rfl, hown6, hb5⟩
          case round =>
            clear hown6 hb5
            obtain ⟨j, hij, hj, rfl, rfl, hownV, hb4⟩ := hrel
            by_cases hlt3 : j < l.length
            · have hck := cell_kept hb4 (hcI j hlt3)
              have HT := ins_step l i j id hij hlt3
              go_wp2_with (at_builtin; refine wpList_append_fits _ rfl (.tmp 90) (.tmp 95) 22 rfl w3.heap.size 23 i0 1 Try.underlying22 hinf hz1 w3.heap.size (j + 1) (l.length + 1) (((ins l i id).take (j + 1)).map (Value.int .u64)) rfl (hownV.alloc _) ⟨wr.heap.size, 0, none⟩ 1 1 [.int .u64 l[j]] rfl rfl (cell_one_new _ _ _) (by intro u hu; simp at hu; subst hu; rfl) (by omega) ?_; intro w7 hown7 hgr7)
              have hb7 : Below w3.heap.size w3 w7 := (hb4.alloc hb4.size _).grown hgr7 (by have := hb4.size; simp; omega) (by intro k hk; simp at hk; omega)
              have hown8 : w7.ownsRow w3.heap.size 23 1 (.slice (some ⟨w3.heap.size, 0, none⟩) (j + 1 + 1) (l.length + 1)) (j + 1 + 1) (((ins l i id).take (j + 1 + 1)).map (Value.int .u64)) := by
                rw [HT, List.map_append]; exact hown7
              clear hgr7 hck hownV hown7 HT
              go_wp2
              go_roundw
              case rel => exact ⟨j + 1, by omega, by omega, by go_num, rfl, hown8, hb7⟩
              case measure => simp [intOf]; omega
            · have hjl : j = l.length := by omega
              subst hjl
              have hrowV : Row wr (.slice (some ⟨w3.heap.size, 0, none⟩) (l.length + 1) (l.length + 1)) (ins l i id) := by
                have ho : Own wr w3.heap.size (.slice (some ⟨w3.heap.size, 0, none⟩) (l.length + 1) (l.length + 1)) (ins l i id) := by
                  unfold Own
                  rw [ins_length l i id hk]
                  rw [List.take_of_length_le (by rw [ins_length l i id hk]; omega)] at hownV
                  exact hownV
                exact ho.row
              have hrowI' := hrowI.kept hb4
              have hrowR' := hrowR.kept hb4
              have hbel' : Below w.heap.size w wr := hbel.trans (hb4.mono hbel.size)
              clear hlt3 hlt hownV
              have hl1 : l.length ≤ 1048576 := by omega
              go_wp2_with fail
              refine (zzhas_any _ l _ _ hl1 hrowI').mono ?_
              rintro e w' ⟨rfl, hw⟩
              obtain rfl := hw.symm
              have hsp := hasB_take_drop l i id
              have hiV := hasB_ins l i id
              have hlT : (l.take i).length ≤ 1048576 := by rw [List.length_take]; omega
              have hlD : (l.drop i).length ≤ 1048576 := by rw [List.length_drop]; omega
              have hlV : (ins l i id).length ≤ 1048576 := by rw [ins_length l i id hk]; omega
              have hlR : R.length ≤ 1048576 := by omega
              have hcW : ∀ j (hj : j < l.length), wr.cell? ⟨w.heap.size, j, none⟩ = some (.int .u64 l[j]) := fun j hj => cell_kept hb4 (hcI j hj)
              have hrowT : Row wr (.slice (some ⟨w.heap.size, 0, none⟩) i l.length) (l.take i) := row_take hk hcW
              clear hcI hb4 hbel hrowI hrowR
              rcases Nat.lt_or_ge i l.length with hil | hil
              · have hrowD : Row wr (.slice (some ⟨w.heap.size, i, none⟩) (l.length - i) (l.length - i)) (l.drop i) := row_drop hcW
                clear hcW
                go_wp2_with fail
                refine (zzhas_any _ (l.take i) _ _ hlT hrowT).mono ?_
                rintro e w' ⟨rfl, hw⟩
                obtain rfl := hw.symm
                go_wp2_with fail
                refine (zzhas_any _ (l.drop i) _ _ hlD hrowD).mono ?_
                rintro e w' ⟨rfl, hw⟩
                obtain rfl := hw.symm
                go_wp2_with fail
                refine (zzhas_any _ (ins l i id) _ _ hlV hrowV).mono ?_
                rintro e w' ⟨rfl, hw⟩
                obtain rfl := hw.symm
                go_wp2_with fail
                refine (zzhas_any _ R _ _ hlR hrowR').mono ?_
                rintro e w' ⟨rfl, hw⟩
                obtain rfl := hw.symm
                cases hA : hasB (l.take i) id <;> cases hB : hasB (l.drop i) id
                all_goals
                  rw [hA, hB] at hsp
                  simp only [Bool.or_false, Bool.or_true] at hsp
                  go_wp2
                  go_ret
                  exact ⟨rfl, hbel'⟩
              · obtain rfl : i = l.length := by omega
                have hN := hasB_nil id
                have hrowD : Row wr (.slice (some ⟨w.heap.size, 0, none⟩) 0 0) [] := row_none _ _ _
                rw [List.take_length] at hrowT
                clear hcW hsp hlT hlD
                go_wp2_with fail
                refine (zzhas_any _ l _ _ hl1 hrowT).mono ?_
                rintro e w' ⟨rfl, hw⟩
                obtain rfl := hw.symm
                go_wp2_with fail
                refine (zzhas_any _ [] _ _ (by simp) hrowD).mono ?_
                rintro e w' ⟨rfl, hw⟩
                obtain rfl := hw.symm
                go_wp2_with fail
                refine (zzhas_any _ (ins l l.length id) _ _ hlV hrowV).mono ?_
                rintro e w' ⟨rfl, hw⟩
                obtain rfl := hw.symm
                go_wp2_with fail
                refine (zzhas_any _ R _ _ hlR hrowR').mono ?_
                rintro e w' ⟨rfl, hw⟩
                obtain rfl := hw.symm
                cases hA : hasB l id
                all_goals
                  go_wp2
                  go_ret
                  exact ⟨rfl, hbel'⟩
end Go.Proofs.Qxb6617386a
