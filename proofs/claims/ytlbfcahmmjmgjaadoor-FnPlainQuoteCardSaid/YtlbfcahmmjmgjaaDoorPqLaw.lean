/- THE WALK of the law FnPlainQuote: true of every word. Condition: the listed table lies in its variable. -/
import Derived.Test.YtlbfcahmmjmgjaaDoorPqQuote
import Derived.Test.YtlbfcahmmjmgjaaDoorPqShelf
namespace Go.Proofs.YtlbfcahmmjmgjaaDoor
open Go.RowKit

theorem ib_yes : ∀ n : Fin 256, isSign (UInt8.ofNat n.val) = true → 0 ≤ Lib.indexByte signs (UInt8.ofNat n.val) := by decide +kernel
theorem ib_no : ∀ n : Fin 256, isSign (UInt8.ofNat n.val) = false → Lib.indexByte signs (UInt8.ofNat n.val) = -1 := by decide +kernel

theorem index_yes (c : UInt8) (hc : isSign c = true) (w : World) :
    Calls Tryd.prog 5 #[.string ⟨#[92, 46, 43, 42, 63, 40, 41, 124, 91, 93, 123, 125, 94, 36]⟩, .int .u8 (c.toNat : Int)] w fun e w' => ∃ j : Nat, e = .returned (.int .i64 (j : Int)) ∧ w = w' := by
  refine (Tryd.strings_IndexByte _ _ w).mono fun e w' ⟨he, hw⟩ => ?_
  have h := ib_yes ⟨c.toNat, c.toNat_lt⟩ (by simpa using hc)
  refine ⟨(Lib.indexByte signs (UInt8.ofNat c.toNat)).toNat, ?_, hw.symm⟩
  rw [he, Int.toNat_of_nonneg h]
  simp [signs]
theorem index_no (c : UInt8) (hc : isSign c = false) (w : World) :
    Calls Tryd.prog 5 #[.string ⟨#[92, 46, 43, 42, 63, 40, 41, 124, 91, 93, 123, 125, 94, 36]⟩, .int .u8 (c.toNat : Int)] w fun e w' => e = .returned (.int .i64 (-1)) ∧ w = w' := by
  refine (Tryd.strings_IndexByte _ _ w).mono fun e w' ⟨he, hw⟩ => ⟨?_, hw.symm⟩
  have h := ib_no ⟨c.toNat, c.toNat_lt⟩ (by simpa using hc)
  rw [he, ← h]
  simp [signs]

set_option maxRecDepth 100000 in
set_option maxHeartbeats 400000 in
theorem impl_quote (s : ByteArray) (w : World) (hs : s.size ≤ 65536) (ht : TabAt w) (hb : 1 < w.heap.size) :
    Calls Tryd.prog 6 #[.string s] w fun e w' => e = .returned (.string ⟨(quo s.data.toList).toArray⟩) ∧ Below w.heap.size w w' := by
  have HT := Lib.hid ht
  clear ht
  go_enter Tryd.func6, Tryd.ntmps6
  go_wp2_with fail
  refine (quote_any s w hs HT.out hb).mono ?_
  rintro e w' ⟨rfl, hbel⟩
  have HB := Lib.hid hbel
  clear hbel
  go_wp2
  go_ret
  exact ⟨rfl, HB.out⟩

theorem bytes_add (a b : ByteArray) : (a ++ b).data.toList = a.data.toList ++ b.data.toList := by simp
theorem one_byte (s : ByteArray) (k : Nat) (h : k < s.size) : (s.extract k (k + 1)).data.toList = [s[k]] := by
  have hl : k < s.data.toList.length := by rw [← Lib.size_eq]; exact h
  rw [Lib.extract_data, show k + 1 - k = 1 by omega, List.drop_eq_getElem_cons hl]
  rfl

set_option maxRecDepth 100000 in
set_option maxHeartbeats 400000 in
theorem law_any (s : ByteArray) (w : World) (hm : s.size ≤ 9223372036854775807) (ht : TabAt w) (hb : 1 < w.heap.size) :
    Calls Tryd.prog 3 #[.string s] w fun e w' => e = .returned (.bool true) ∧ Below w.heap.size w w' := by
  have HT := Lib.hid ht
  clear ht
  by_cases h1 : 2147483647 < s.size
  · go_enter Tryd.func3, Tryd.ntmps3
    go_wp2
    go_ret
    exact ⟨rfl, Below.refl _ _⟩
  by_cases h2 : 65536 < s.size
  · go_enter Tryd.func3, Tryd.ntmps3
    go_wp2
    go_ret
    exact ⟨rfl, Below.refl _ _⟩
  go_enter Tryd.func3, Tryd.ntmps3
  go_wp2
  go_loop [3, 4] (fun v i => ∃ (k : Nat) (W : ByteArray), k ≤ s.size ∧ i = .int .i64 k ∧ v = .string W ∧ Hid (W.data.toList = quo (s.data.toList.take k))) (fun _ i => s.size - (intOf i).toNat)
  case atStart => exact ⟨0, ⟨#[]⟩, Nat.zero_le _, rfl, rfl, Lib.hid rfl⟩
  case round =>
    obtain ⟨k, W, hk, rfl, rfl, HW⟩ := hrel
    have hWs : W.size ≤ 131072 := by
      have h := (quo_len (s.data.toList.take k)).2
      rw [take_len s k hk, ← HW.out, ← Lib.size_eq] at h
      omega
    by_cases hlt : k < s.size
    · cases hc : isSign s[k] with
      | false =>
        have HC := Lib.hid hc
        clear hc
        go_wp2_with fail
        refine (index_no _ HC.out _).mono ?_
        rintro e w' ⟨rfl, rfl⟩
        go_wp2_with fail
        go_round
        case rel =>
          refine ⟨k + 1, _, by omega, by go_num, rfl, Lib.hid ?_⟩
          rw [quo_no s k hlt HC.out, ← HW.out, bytes_add, one_byte s k hlt]
        case measure => simp [intOf]; omega
      | true =>
        have HC := Lib.hid hc
        clear hc
        go_wp2_with fail
        refine (index_yes _ HC.out _).mono ?_
        rintro e w' ⟨j, rfl, rfl⟩
        have hsz : (W ++ ⟨#[92]⟩).size ≤ 131073 := by
          have e1 : (⟨#[92]⟩ : ByteArray).size = 1 := rfl
          rw [ByteArray.size_append, e1]
          omega
        go_wp2_with fail
        go_round
        case rel =>
          refine ⟨k + 1, _, by omega, by go_num, rfl, Lib.hid ?_⟩
          rw [quo_yes s k hlt HC.out, ← HW.out, bytes_add, bytes_add, one_byte s k hlt]
          simp
        case measure => simp [intOf]; omega
    · obtain rfl : k = s.size := by omega
      have hq : (quo s.data.toList == W.toList) = true := by
        have h := HW.out
        rw [take_all] at h
        rw [ByteArray.toList_eq, h]
        simp
      go_wp2_with fail
      refine (impl_quote s w (by omega) HT.out hb).mono ?_
      rintro e w' ⟨rfl, hbel⟩
      have HB := Lib.hid hbel
      clear hbel
      go_wp2_with fail
      go_ret
      exact ⟨rfl, HB.out⟩
end Go.Proofs.YtlbfcahmmjmgjaaDoor
