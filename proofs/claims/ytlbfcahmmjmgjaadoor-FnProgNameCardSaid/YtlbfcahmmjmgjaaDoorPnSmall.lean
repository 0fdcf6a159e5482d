/- THE WALKS of slices.Index at []string, spec.Number, SubexpIndex, zzFits4. -/
import Derived.Test.YtlbfcahmmjmgjaaDoorProg
import Derived.Test.YtlbfcahmmjmgjaaDoorPnRead
import Derived.WalkSpells
import Derived.WalkLawsBesides
import Derived.Lib.Hide
namespace Go.Proofs.YtlbfcahmmjmgjaaDoor
open Go.RowKit

set_option maxRecDepth 100000 in
set_option maxHeartbeats 400000 in
theorem index_any (A : Option Addr) (n c : Nat) (ls : List ByteArray) (s : ByteArray) (w : World) (B : Nat) (hn : n ≤ 9223372036854775807) (hz : Rs w B A n ls) :
    Calls Tryd.prog 14 #[.slice A n c, .string s] w fun e w' => e = .returned (.int .i64 (idxFrom s ls 0)) ∧ w = w' := by
  obtain ⟨T, hT⟩ : ∃ T, T = idxFrom s ls 0 := ⟨_, rfl⟩
  rw [← hT]
  have HT := Lib.hid hT
  have HZ := Lib.hid hz
  clear hz hT
  go_enter Tryd.func14, Tryd.ntmps14
  go_wp2
  go_loop [8] (fun i => ∃ k : Nat, k ≤ n ∧ i = .int .i64 k ∧ Hid (T = idxFrom s (ls.drop k) k)) (fun i => n - (intOf i).toNat)
  case atStart => exact ⟨0, Nat.zero_le _, rfl, HT⟩
  case round =>
    obtain ⟨k, hk, rfl, HS⟩ := hrel
    by_cases hlt : k < n
    · obtain ⟨b, off, rfl, hb, hcz⟩ := HZ.out.2 (by omega)
      have hck := hcz k hlt
      have hst := HS.out
      rw [idx_step s ls k (by have := HZ.out.1; omega)] at hst
      obtain ⟨x, hx⟩ : ∃ x, x = ls.getD k ByteArray.empty := ⟨_, rfl⟩
      rw [← hx] at hck hst
      clear hcz hx
      cases hc : s.toList == x.toList with
      | true =>
        rw [if_pos hc] at hst
        have HST := Lib.hid hst
        clear hst
        go_wp2_with fail
        go_ret
        exact ⟨ret_int HST.out.symm, rfl⟩
      | false =>
        rw [if_neg (by simp [hc])] at hst
        have HST := Lib.hid hst
        clear hst
        go_wp2_with fail
        go_round
        case rel => exact ⟨k + 1, by omega, by go_num, HST⟩
        case measure => simp [intOf]; omega
    · obtain rfl : k = n := by omega
      have h1 : T = -1 := by
        rw [HS.out, show k = ls.length from HZ.out.1.symm, idx_end]
      have H1 := Lib.hid h1
      clear h1 HS HT
      go_wp2_with fail
      go_ret
      exact ⟨ret_int H1.out.symm, rfl⟩

theorem not_empty (s : ByteArray) (h : ¬ s.size = 0) : s.toList.isEmpty = false := by
  rw [ByteArray.toList_eq, List.isEmpty_eq_false_iff]
  intro e
  apply h
  have : s.data.toList.length = s.size := by rw [Array.length_toList]; rfl
  rw [← this, e]
  rfl

/-- Yes or no; memory is as it was. -/
def SaysBool (w : World) (e : Ending) (w' : World) : Prop := ∃ b, e = .returned (.bool b) ∧ w = w'

set_option maxRecDepth 100000 in
set_option maxHeartbeats 400000 in
theorem number_any (A : Option Addr) (n c : Nat) (ls : List ByteArray) (s : ByteArray) (w : World) (B : Nat) (hn : n ≤ 9223372036854775807) (hz : Rs w B A n ls) :
    Calls Tryd.prog 9 #[.slice A n c, .string s] w fun e w' => e = .returned (.int .i64 (numOfName s ls)) ∧ w = w' := by
  have HI := Lib.hid (index_any A n c ls s w B hn hz)
  clear hz
  by_cases h : s.size = 0
  · have e : numOfName s ls = -1 := by simp [numOfName, h]
    obtain rfl : s = ByteArray.empty := by
      apply ByteArray.ext; apply Array.eq_empty_of_size_eq_zero; exact h
    rw [e]
    go_enter Tryd.func9, Tryd.ntmps9
    go_wp2
    go_ret
    exact ⟨rfl, rfl⟩
  · have hne := not_empty s h
    have e : numOfName s ls = idxFrom s ls 0 := by simp [numOfName, h]
    rw [e]
    go_enter Tryd.func9, Tryd.ntmps9
    go_wp2_with fail
    refine HI.out.mono ?_
    rintro e w' ⟨rfl, rfl⟩
    go_wp2_with fail
    go_ret
    exact ⟨rfl, rfl⟩

set_option maxRecDepth 100000 in
set_option maxHeartbeats 400000 in
/-- zzFits4 answers yes or no; memory is as it was. -/
theorem fits_any (A : Option Addr) (n c : Nat) (ls : List ByteArray) (w : World) (B : Nat) (hn : n ≤ 9223372036854775807) (hz : Rs w B A n ls) :
    Calls Tryd.prog 7 #[.slice A n c] w (SaysBool w) := by
  have HZ := Lib.hid hz
  clear hz
  by_cases s1 : 2147483647 < n
  · go_enter Tryd.func7, Tryd.ntmps7
    go_wp2
    go_ret
    exact ⟨_, rfl, rfl⟩
  go_enter Tryd.func7, Tryd.ntmps7
  go_wp2
  go_loop [10] (fun i => ∃ k : Nat, k ≤ n ∧ i = .int .i64 k) (fun i => n - (intOf i).toNat)
  case atStart => exact ⟨0, Nat.zero_le _, rfl⟩
  case round =>
    obtain ⟨k, hk, rfl⟩ := hrel
    by_cases hlt : k < n
    · obtain ⟨b, off, rfl, hb, hcz⟩ := HZ.out.2 (by omega)
      have hck := hcz k hlt
      obtain ⟨x, hx⟩ : ∃ x, x = ls.getD k ByteArray.empty := ⟨_, rfl⟩
      rw [← hx] at hck
      clear hcz hx
      by_cases hs : 2147483647 < x.size
      · go_wp2_with fail
        go_ret
        exact ⟨_, rfl, rfl⟩
      · go_wp2_with fail
        go_round
        case rel => exact ⟨k + 1, by omega, by go_num⟩
        case measure => simp [intOf]; omega
    · obtain rfl : k = n := by omega
      go_wp2_with fail
      go_ret
      exact ⟨_, rfl, rfl⟩

set_option maxRecDepth 100000 in
set_option maxHeartbeats 400000 in
theorem subexp_any (g : Nat) (A : Option Addr) (n c : Nat) (ls : List ByteArray) (s : ByteArray) (w : World) (B : Nat) (hn : n ≤ 9223372036854775807) (hz : Rs w B A n ls) (h5 : w.cell? ⟨g, 5, none⟩ = some (.slice A n c)) :
    Calls Tryd.prog 13 #[.pointer (some ⟨g, 0, none⟩), .string s] w fun e w' => e = .returned (.int .i64 (numOfName s ls)) ∧ w = w' := by
  by_cases h : s.size = 0
  · have e : numOfName s ls = -1 := by simp [numOfName, h]
    obtain rfl : s = ByteArray.empty := by
      apply ByteArray.ext; apply Array.eq_empty_of_size_eq_zero; exact h
    rw [e]
    go_enter Tryd.func13, Tryd.ntmps13
    go_wp2
    go_ret
    exact ⟨rfl, rfl⟩
  have hne := not_empty s h
  have e : numOfName s ls = idxFrom s ls 0 := by simp [numOfName, h]
  rw [e]
  obtain ⟨T, hT⟩ : ∃ T, T = idxFrom s ls 0 := ⟨_, rfl⟩
  rw [← hT]
  have HT := Lib.hid hT
  have HZ := Lib.hid hz
  clear hz hT e
  go_enter Tryd.func13, Tryd.ntmps13
  go_wp2
  go_loop [14] (fun i => ∃ k : Nat, k ≤ n ∧ i = .int .i64 k ∧ Hid (T = idxFrom s (ls.drop k) k)) (fun i => n - (intOf i).toNat)
  case atStart => exact ⟨0, Nat.zero_le _, rfl, HT⟩
  case round =>
    obtain ⟨k, hk, rfl, HS⟩ := hrel
    by_cases hlt : k < n
    · obtain ⟨b, off, rfl, hb, hcz⟩ := HZ.out.2 (by omega)
      have hck := hcz k hlt
      have hst := HS.out
      rw [idx_step s ls k (by have := HZ.out.1; omega)] at hst
      obtain ⟨x, hx⟩ : ∃ x, x = ls.getD k ByteArray.empty := ⟨_, rfl⟩
      rw [← hx] at hck hst
      clear hcz hx
      cases hc : s.toList == x.toList with
      | true =>
        rw [if_pos hc] at hst
        have HST := Lib.hid hst
        clear hst
        go_wp2_with fail
        go_ret
        exact ⟨ret_int HST.out.symm, rfl⟩
      | false =>
        rw [if_neg (by simp [hc])] at hst
        have HST := Lib.hid hst
        clear hst
        go_wp2_with fail
        go_round
        case rel => exact ⟨k + 1, by omega, by go_num, HST⟩
        case measure => simp [intOf]; omega
    · obtain rfl : k = n := by omega
      have h1 : T = -1 := by
        rw [HS.out, show k = ls.length from HZ.out.1.symm, idx_end]
      have H1 := Lib.hid h1
      clear h1 HS HT
      go_wp2_with fail
      go_ret
      exact ⟨ret_int H1.out.symm, rfl⟩
end Go.Proofs.YtlbfcahmmjmgjaaDoor
