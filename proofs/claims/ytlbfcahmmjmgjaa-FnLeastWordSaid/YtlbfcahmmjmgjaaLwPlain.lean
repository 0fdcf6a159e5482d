/- PLAIN LISTS for FnLeastWord: runes that are written as they are, the length of each, and of the text that they make. No program. -/
import Derived.Laws.Cover4
namespace Go.Proofs.Ytlbfcahmmjmgjaa

/-- A rune that is not written as it is, or is written like one that cannot be. -/
def badB (x : Int) : Bool := decide (x < 0) || (decide (55296 ≤ x) && decide (x < 57344)) || decide (x = 65533) || decide (1114111 < x)
def runeLenI (x : Int) : Int := if x < 0 then -1 else if x ≤ 127 then 1 else if x ≤ 2047 then 2 else if 55296 ≤ x ∧ x ≤ 57343 then -1 else if x ≤ 65535 then 3 else if x ≤ 1114111 then 4 else -1
/-- The lengths in a row. -/
def lenSum (zs : List Int) : Int := (zs.map runeLenI).sum

theorem encode_len (x : Int) (h : badB x = false) : ((Utf8.encode x).size : Int) = runeLenI x := by
  simp only [badB, Bool.or_eq_false_iff, Bool.and_eq_false_iff, decide_eq_false_iff_not] at h
  obtain ⟨⟨⟨h1, h2⟩, h3⟩, h4⟩ := h
  have hv : Utf8.valid x = true := by simp [Utf8.valid]; omega
  unfold Utf8.encode runeLenI
  simp only [hv, if_true]
  repeat' split
  all_goals first | rfl | (exfalso; omega)

theorem runeLenI_range (x : Int) (h : badB x = false) : 1 ≤ runeLenI x ∧ runeLenI x ≤ 4 := by
  simp only [badB, Bool.or_eq_false_iff, Bool.and_eq_false_iff, decide_eq_false_iff_not] at h
  unfold runeLenI
  repeat' split
  all_goals omega

theorem lenSum_nil : lenSum [] = 0 := rfl
theorem lenSum_take (zs : List Int) (k : Nat) (h : k < zs.length) : lenSum (zs.take (k + 1)) = lenSum (zs.take k) + runeLenI (zs.getD k 0) := by
  rw [List.take_succ_eq_append_getElem h]
  simp only [lenSum, List.map_append, List.map_cons, List.map_nil, List.sum_append, List.sum_cons, List.sum_nil, List.getD, List.getElem?_eq_getElem h, Option.getD_some]
  omega
theorem lenSum_range : ∀ (zs : List Int), zs.any badB = false → 0 ≤ lenSum zs ∧ lenSum zs ≤ 4 * zs.length
  | [], _ => ⟨Int.le_refl _, Int.le_refl _⟩
  | x :: zs, h => by
    simp only [List.any_cons, Bool.or_eq_false_iff] at h
    have h1 := lenSum_range zs h.2
    have h2 := runeLenI_range x h.1
    simp only [lenSum, List.map_cons, List.sum_cons, List.length_cons] at h1 ⊢
    push_cast
    omega
theorem foldl_len : ∀ (zs : List Int), zs.any badB = false → ∀ s : ByteArray, ((zs.foldl (fun r n => r ++ Utf8.encode n) s).size : Int) = s.size + lenSum zs
  | [], _, s => by simp [lenSum]
  | x :: zs, h, s => by
    simp only [List.any_cons, Bool.or_eq_false_iff] at h
    have h1 := foldl_len zs h.2 (s ++ Utf8.encode x)
    have h2 := encode_len x h.1
    rw [List.foldl_cons, h1, ByteArray.size_append]
    simp only [lenSum, List.map_cons, List.sum_cons]
    omega
/-- The text of a list of plain runes is as long as their lengths in a row. -/
theorem bytes_len (zs : List Int) (h : zs.any badB = false) : ((runesBytes zs).size : Int) = lenSum zs := by
  have := foldl_len zs h ByteArray.empty
  simpa [runesBytes] using this
theorem bad_step (zs : List Int) (k : Nat) (h : k < zs.length) : (zs.take (k + 1)).any badB = ((zs.take k).any badB || badB (zs.getD k 0)) := by
  rw [List.take_succ_eq_append_getElem h, List.any_append]
  simp only [List.any_cons, List.any_nil, Bool.or_false, List.getD, List.getElem?_eq_getElem h, Option.getD_some]
theorem bad_take (zs : List Int) (k : Nat) (h : zs.any badB = false) : (zs.take k).any badB = false := by
  rw [← List.take_append_drop k zs, List.any_append, Bool.or_eq_false_iff] at h
  exact h.1
theorem bad_at (zs : List Int) (k : Nat) (hk : k < zs.length) (h : zs.any badB = false) : badB (zs.getD k 0) = false := by
  have h1 := bad_step zs k hk
  rw [bad_take _ _ h, bad_take _ _ h, Bool.false_or] at h1
  exact h1.symm
end Go.Proofs.Ytlbfcahmmjmgjaa
