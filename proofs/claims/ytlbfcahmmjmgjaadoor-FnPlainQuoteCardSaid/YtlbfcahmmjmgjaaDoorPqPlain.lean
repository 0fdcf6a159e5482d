/- PLAIN LISTS for FnPlainQuote: what a quoted text is, its steps and its length; a row of bytes that is filled from the left. No program. -/
import Derived.Test.YtlbfcahmmjmgjaaDoorPqSpecial
import Derived.Deep.OwnRows
import Derived.Lib.BufferWrite
import Derived.Lib.RabinKarpLaws
import Derived.Lib.IndexBytes
import Derived.Laws.IdiomStrings
namespace Go.Proofs.YtlbfcahmmjmgjaaDoor
open Go.RowKit

/-- A text, quoted: each sign that means something has a backslash ahead. -/
def quo : List UInt8 → List UInt8
  | [] => []
  | c :: l => if isSign c then 92 :: c :: quo l else c :: quo l

theorem quo_append (a b : List UInt8) : quo (a ++ b) = quo a ++ quo b := by
  induction a with
  | nil => rfl
  | cons c l ih =>
    simp only [List.cons_append, quo, ih]
    split <;> rfl
theorem quo_len (a : List UInt8) : a.length ≤ (quo a).length ∧ (quo a).length ≤ 2 * a.length := by
  induction a with
  | nil => simp [quo]
  | cons c l ih =>
    simp only [quo]
    split <;> simp <;> omega

theorem take_snoc (s : ByteArray) (k : Nat) (h : k < s.size) : s.data.toList.take (k + 1) = s.data.toList.take k ++ [s[k]] := by
  rw [List.take_succ_eq_append_getElem (by simpa using h)]; rfl
theorem take_len (s : ByteArray) (k : Nat) (h : k ≤ s.size) : (s.data.toList.take k).length = k := by
  rw [List.length_take, ← Lib.size_eq]; omega
theorem take_all (s : ByteArray) : s.data.toList.take s.size = s.data.toList := List.take_of_length_le (by rw [← Lib.size_eq]; exact Nat.le_refl _)

theorem quo_yes (s : ByteArray) (k : Nat) (h : k < s.size) (hc : isSign s[k] = true) : quo (s.data.toList.take (k + 1)) = quo (s.data.toList.take k) ++ [92, s[k]] := by
  rw [take_snoc s k h, quo_append]; simp [quo, hc]
theorem quo_no (s : ByteArray) (k : Nat) (h : k < s.size) (hc : isSign s[k] = false) : quo (s.data.toList.take (k + 1)) = quo (s.data.toList.take k) ++ [s[k]] := by
  rw [take_snoc s k h, quo_append]; simp [quo, hc]

/-- How long the quoted beginning is, where its first k0 bytes are no signs. -/
theorem quo_bound (s : ByteArray) (k0 : Nat) (h0 : quo (s.data.toList.take k0) = s.data.toList.take k0) (d : Nat) (h : k0 + d ≤ s.size) :
    (quo (s.data.toList.take (k0 + d))).length ≤ k0 + 2 * d := by
  have e : s.data.toList.take (k0 + d) = s.data.toList.take k0 ++ (s.data.toList.drop k0).take d := by rw [List.take_add]
  rw [e, quo_append, List.length_append, h0, take_len s k0 (by omega)]
  have h1 := (quo_len ((s.data.toList.drop k0).take d)).2
  have h2 := List.length_take_le d (s.data.toList.drop k0)
  omega

/-- A row of bytes by its content, noughts behind it. -/
def bytesFn (c : List UInt8) : Nat → Value := fun i => .int .u8 ((c[i]?.getD 0).toNat : Int)

theorem row_push {w : World} {B m : Nat} {c : List UInt8} (h : w.rowIs B 5 m (bytesFn c)) (x : UInt8) :
    (w.setCell ⟨B, c.length, none⟩ (.int .u8 (x.toNat : Int))).rowIs B 5 m (bytesFn (c ++ [x])) := by
  refine (h.set c.length _).congr fun i _ => ?_
  unfold bytesFn
  by_cases e : i = c.length
  · subst e; simp
  · rw [if_neg e]
    by_cases e2 : i < c.length
    · rw [List.getElem?_append_left e2]
    · rw [List.getElem?_append_right (by omega), List.getElem?_eq_none (by omega), List.getElem?_eq_none (by simp; omega)]

/-- What make and copy have laid reads as the text's beginning. -/
theorem row_copied (w : World) (m k : Nat) (s : ByteArray) (hs : s.size = k) (hk : k ≤ m) :
    ((w.alloc (.cells (madeCells #[Value.int .u8 0] m) 5)).setRow w.heap.size ((madeCells #[Value.int .u8 0] m).toList.take 0 ++ Lib.byteCells s.data.toList ++ (madeCells #[Value.int .u8 0] m).toList.drop (0 + s.size)).toArray).rowIs w.heap.size 5 m (bytesFn s.data.toList) := by
  refine ⟨_, setRow_heap _ _ _ _ 5 (0, 0) (heap_alloc_new w _), ?_, fun i hi => ?_⟩
  · simp [Lib.byteCells_length, size_madeCells]
    have := Lib.size_eq s
    simp at this
    omega
  · have hl : (Lib.byteCells s.data.toList).length = k := by rw [Lib.byteCells_length, ← Lib.size_eq, hs]
    simp only [List.take_zero, List.nil_append, Nat.zero_add, hs, List.getElem?_toArray]
    by_cases e : i < k
    · rw [List.getElem?_append_left (by omega)]
      have hi2 : i < s.data.toList.length := by rw [← Lib.size_eq]; omega
      simp only [Lib.byteCells, bytesFn, List.getElem?_map, List.getElem?_eq_getElem hi2]
      rfl
    · rw [List.getElem?_append_right (by omega), hl, List.getElem?_drop, show k + (i - k) = i by omega]
      have hi2 : ¬ i < s.data.toList.length := by rw [← Lib.size_eq]; omega
      simp only [bytesFn, List.getElem?_eq_none (Nat.le_of_not_lt hi2)]
      simp [madeCells, hi, Nat.mod_one]

/-- Such a row, made a text. -/
theorem row_conv (w : World) (B m : Nat) (c : List UInt8) (h : w.rowIs B 5 m (bytesFn c)) (hm : c.length ≤ m) (cap : Nat) :
    (convert 40 9 (.slice (some ⟨B, 0, none⟩) c.length cap)).run Tryd.prog w = .ok (.string ⟨c.toArray⟩) w := by
  refine run_convert_bytes_back w 40 9 5 ⟨B, 0, none⟩ cap c Tryd.underlying40 Tryd.underlying5 Tryd.underlying9 fun j hj => ?_
  have e : (⟨B, 0, none⟩ : Addr).add j = ⟨B, j, none⟩ := by unfold Addr.add; split <;> simp_all
  rw [e, h.cell (by omega)]
  simp [bytesFn, List.getElem?_eq_getElem hj]
end Go.Proofs.YtlbfcahmmjmgjaaDoor
