/-
  The contracts of 'compareStringBytes' (24), 'ZZCompareStringBytes' (15), 'bytesOfB1' (16), 'lexB1' (17), 'nameB1' (22).
-/
import Derived.Test.Qxb6617189aRows
import Derived.WalkKit
import Derived.ProofKit
import Derived.Deep.Light
import Derived.Laws.BytesArg
import Derived.Laws.IdiomStrings
import Derived.Test.Qxb6617189aPlainBytes
namespace Go.Proofs.Qxb6617189a
open Go.RowKit

theorem ret_int {k : IntKind} {a b : Int} (h : a = b) : Ending.returned (.int k a) = .returned (.int k b) := by rw [h]

theorem plain_add (b off j : Nat) : (⟨b, off, none⟩ : Addr).add j = ⟨b, off + j, none⟩ := by unfold Addr.add; split <;> simp_all

/-- 'string(b)' of a slice that reads as l. -/
theorem conv_row {w : World} {v : Value} {l : List UInt8} (h : Row w v l) : (convert 28 9 v).run Try.prog w = .ok (.string ⟨l.toArray⟩) w := by
  rcases h with ⟨rfl, rfl⟩ | ⟨g, cap, rfl, hc⟩
  · exact run_convert_bytes_nil w 28 5 Try.underlying28 Try.underlying5 0 0 9 Try.underlying9
  · exact run_convert_bytes_back w 28 9 5 ⟨g, 0, none⟩ cap l Try.underlying28 Try.underlying5 Try.underlying9 (fun j hj => by rw [plain_add, Nat.zero_add]; exact hc j hj)

theorem cmpS_core (s t : ByteArray) (v : Value) (w : World) (hcv : (convert 28 9 v).run Try.prog w = .ok (.string t) w) :
    Calls Try.prog 24 #[.string s, v] w fun e w' => e = .returned (.int .i64 (cmpL s.toList t.toList)) ∧ w' = w := by
  go_enter Try.func24, Try.ntmps24
  go_wp2
  all_goals
    go_ret
    refine ⟨ret_int ?_, rfl⟩
    go_light
    simp_all [cmpL]

theorem cmpS_any (s : ByteArray) (v : Value) (l : List UInt8) (w : World) (h : Row w v l) :
    Calls Try.prog 24 #[.string s, v] w fun e w' => e = .returned (.int .i64 (cmpL s.toList l)) ∧ w' = w := by
  have hc := cmpS_core s ⟨l.toArray⟩ v w (conv_row h)
  rw [ByteArray.toList_mk l] at hc
  exact hc

theorem zzcmpS_any (s : ByteArray) (v : Value) (l : List UInt8) (w : World) (h : Row w v l) :
    Calls Try.prog 15 #[.string s, v] w fun e w' => e = .returned (.int .i64 (cmpL s.toList l)) ∧ w' = w := by
  go_enter Try.func15, Try.ntmps15
  go_wp2_with (go_at_call 24; refine (cmpS_any _ _ l _ h).mono ?_; rintro e w' ⟨rfl, rfl⟩)
  go_ret
  exact ⟨rfl, rfl⟩

/-- What 'nameB1' answers. -/
def nameOf (a : Bool) : ByteArray := if a = true then ⟨#[116, 114, 117, 101]⟩ else ⟨#[102, 97, 108, 115, 101]⟩
theorem name_any (a : Bool) (w : World) : Calls Try.prog 22 #[.bool a] w fun e w' => e = .returned (.string (nameOf a)) ∧ w' = w := by
  cases a
  all_goals
    go_enter Try.func22, Try.ntmps22
    go_wp2
    go_ret
    exact ⟨rfl, rfl⟩

theorem info5 : (Try.prog.info? 5).map (fun i => (i.zero, i.size, i.bytes)) = some (some (.int .u8 0), 1, 1) := by kernel_rfl

theorem size_toList (s : ByteArray) : s.toList.length = s.size := by rw [ByteArray.toList_eq]; simp
theorem cellOf_at (s : ByteArray) (k : Nat) (h : k < s.toList.length) : cellOf s.toList[k] = .int .u8 ((s[k]'(by rw [← size_toList]; exact h)).toNat : Int) := by
  have e : s.toList[k] = s[k]'(by rw [← size_toList]; exact h) := by
    simp only [ByteArray.toList_eq]
    rfl
  rw [e]
  rfl

/-- 'bytesOfB1': a new slice that reads as the string's bytes. -/
theorem bytesOf_any (s : ByteArray) (w : World) (hs : s.size ≤ 1048576) :
    Calls Try.prog 16 #[.string s] w fun e w' => e = .returned (.slice (some ⟨w.heap.size, 0, none⟩) s.size s.size) ∧ Row w' (.slice (some ⟨w.heap.size, 0, none⟩) s.size s.size) s.toList ∧ Below w.heap.size w w' := by
  obtain ⟨i0, hi, hz0, hz1, hz2⟩ := info_parts info5
  go_enter Try.func16, Try.ntmps16
  go_wp2_with (at_make; refine wpList_make_full _ rfl (.tmp 6) (.tmp 6) 28 rfl w.heap.size 5 i0 (.int .u8 0) 1 Try.underlying28 hi hz0 hz1 .i64 .i64 s.size s.size s.size rfl rfl rfl rfl (by rw [hz2]; omega) (by unfold maxLen; omega) (Nat.le_refl _) ?_; intro w1 hown hgr)
  have hown0 : w1.ownsRow w.heap.size 5 1 (.slice (some ⟨w.heap.size, 0, none⟩) s.size s.size) s.size (fillTo s.toList 0) := by
    rw [fillTo_zero, size_toList]
    have e : (madeCells (Value.cells (.int .u8 0)) (s.size * 1)).toList = List.replicate s.size (.int .u8 0) := by rw [Nat.mul_one]; exact toList_madeCells_one _ _
    rw [← e]
    exact hown
  have hb0 : Below w.heap.size w w1 := (Below.refl _ _).grown hgr (Nat.le_refl _) (by simp)
  clear hown hgr hi hz0 hz1 hz2
  go_loopw [4] (fun i wr => ∃ k : Nat, k ≤ s.size ∧ i = .int .i64 k ∧ wr.ownsRow w.heap.size 5 1 (.slice (some ⟨w.heap.size, 0, none⟩) s.size s.size) s.size (fillTo s.toList k) ∧ Below w.heap.size w wr) (fun i _ => s.size - (intOf i).toNat)
  case atStart => exact ⟨0, Nat.zero_le _, rfl, hown0, hb0⟩
  case round =>
    obtain ⟨k, hk, rfl, hown, hb⟩ := hrel
    clear hown0 hb0
    by_cases hlt : k < s.size
    · have hlt' : k < s.toList.length := by rw [size_toList]; exact hlt
      have hf := hown.frozenAt k
      have hc := hown.cellAt k (by omega)
      obtain ⟨u, hu⟩ : ∃ u, (fillTo s.toList k)[k]? = some u := ⟨_, List.getElem?_eq_getElem (by rw [fillTo_length]; exact hlt')⟩
      rw [hu] at hc
      have hst := (hown.stored k (cellOf s.toList[k])).1
      rw [fillTo_set _ _ hlt'] at hst
      have hb' : Below w.heap.size w (wr.setCell ⟨w.heap.size, k, none⟩ (cellOf s.toList[k])) := hb.setCell (Nat.le_refl _) _
      have R := And.intro hst hb'
      rw [cellOf_at s k hlt'] at R
      have HR : Hid _ := R
      clear R hst hb' hu hown hb
      go_wp2
      go_roundw
      case rel => exact ⟨k + 1, by omega, by go_num, HR.out.1, HR.out.2⟩
      case measure => simp [intOf]; omega
    · have hke : k = s.toList.length := by rw [size_toList]; omega
      have hown' : wr.ownsRow w.heap.size 5 1 (.slice (some ⟨w.heap.size, 0, none⟩) s.size s.size) s.size (s.toList.map cellOf) := by
        rw [← fillTo_all, ← hke]; exact hown
      have hrow := Row.of_owns (size_toList s) hown'
      clear hown' hown hke
      go_wp2
      go_ret
      exact ⟨rfl, hrow, hb⟩
end Go.Proofs.Qxb6617189a
