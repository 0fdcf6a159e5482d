/- THE WALKS of strange, slices.IndexFunc and ContainsFunc at it, PairsOk, Meet, PairOf: each answers the plain function; memory is as it was (a count of draws apart). -/
import Derived.Test.YtlbfcahmmjmgjaaProg
import Derived.Test.YtlbfcahmmjmgjaaMgRead
import Derived.Test.YtlbfcahmmjmgjaaMgPlain
import Derived.WalkSpells
import Derived.WalkLawsBesides
import Derived.Deep.QuietTactic
import Derived.BigQuiet
import Derived.Lib.Hide
namespace Go.Proofs.Ytlbfcahmmjmgjaa
open Go.RowKit

set_option maxRecDepth 100000 in
set_option maxHeartbeats 400000 in
theorem strange_any (x : Int) (w : World) :
    Calls Try.prog 12 #[.int .i32 x] w fun e w' => e = .returned (.bool (strangeB x)) ∧ w = w' := by
  by_cases h1 : x < 0
  · have e : strangeB x = true := by simp [strangeB, h1]
    rw [e]
    go_enter Try.func12, Try.ntmps12
    go_wp2
    go_ret
    exact ⟨rfl, rfl⟩
  by_cases h2 : 1114111 < x
  · have e : strangeB x = true := by simp [strangeB, h2]
    rw [e]
    go_enter Try.func12, Try.ntmps12
    go_wp2
    go_ret
    exact ⟨rfl, rfl⟩
  by_cases h3 : 55296 ≤ x
  · by_cases h4 : x < 57344
    · have e : strangeB x = true := by simp [strangeB, h3, h4]
      rw [e]
      go_enter Try.func12, Try.ntmps12
      go_wp2
      go_ret
      exact ⟨rfl, rfl⟩
    · have e : strangeB x = false := by simp [strangeB]; omega
      rw [e]
      go_enter Try.func12, Try.ntmps12
      go_wp2
      go_ret
      exact ⟨rfl, rfl⟩
  · have e : strangeB x = false := by simp [strangeB]; omega
    rw [e]
    go_enter Try.func12, Try.ntmps12
    go_wp2
    go_ret
    exact ⟨rfl, rfl⟩

theorem any_step (zs : List Int) (k : Nat) (h : k < zs.length) : (zs.take (k + 1)).any strangeB = ((zs.take k).any strangeB || strangeB (zs.getD k 0)) := by
  rw [List.take_succ_eq_append_getElem h, List.any_append]
  simp only [List.any_cons, List.any_nil, Bool.or_false, List.getD, List.getElem?_eq_getElem h, Option.getD_some]

/-- 'IndexFunc' at strange: below 0 just where none is strange. -/
def IndexAns (zs : List Int) (w : World) (e : Ending) (w' : World) : Prop := ∃ i : Int, e = .returned (.int .i64 i) ∧ decide (0 ≤ i) = zs.any strangeB ∧ w = w'

set_option maxRecDepth 100000 in
set_option maxHeartbeats 400000 in
theorem index_any (A : Option Addr) (n c : Nat) (zs : List Int) (w : World) (B : Nat) (hn : n ≤ 9223372036854775807) (hz : Rd .i32 w B A n zs) :
    Calls Try.prog 18 #[.slice A n c, .func (.func 12) #[] #[]] w (IndexAns zs w) := by
  have HZ := Lib.hid hz
  clear hz
  go_enter Try.func18, Try.ntmps18
  go_wp2
  go_loop [8] (fun i => ∃ k : Nat, k ≤ n ∧ i = .int .i64 k ∧ Hid ((zs.take k).any strangeB = false)) (fun i => n - (intOf i).toNat)
  case atStart => exact ⟨0, Nat.zero_le _, rfl, Lib.hid rfl⟩
  case round =>
    obtain ⟨k, hk, rfl, HS⟩ := hrel
    by_cases hlt : k < n
    · obtain ⟨b, off, rfl, hb, hcz⟩ := HZ.out.2 (by omega)
      have hck := hcz k hlt
      obtain ⟨x, hx⟩ : ∃ x, x = zs.getD k 0 := ⟨_, rfl⟩
      rw [← hx] at hck
      have HX := Lib.hid hx
      have hstep := any_step zs k (by have := HZ.out.1; omega)
      rw [HS.out, ← hx] at hstep
      have HST := Lib.hid hstep
      clear hcz hx hstep
      cases hc : strangeB x with
      | false =>
        have HC := Lib.hid hc
        clear hc
        go_wp2_with fail
        refine (strange_any _ _).mono ?_
        rintro e w' ⟨rfl, rfl⟩
        rw [HC.out]
        go_wp2_with fail
        go_round
        case rel => exact ⟨k + 1, by omega, by go_num, Lib.hid (by rw [HST.out, HC.out]; rfl)⟩
        case measure => simp [intOf]; omega
      | true =>
        have HC := Lib.hid hc
        clear hc
        go_wp2_with fail
        refine (strange_any _ _).mono ?_
        rintro e w' ⟨rfl, rfl⟩
        rw [HC.out]
        go_wp2_with fail
        go_ret
        refine ⟨_, rfl, ?_, rfl⟩
        have h1 : zs.any strangeB = true := by
          rw [← List.take_append_drop (k + 1) zs, List.any_append, HST.out, HC.out]; rfl
        rw [h1]
        simp
    · obtain rfl : k = n := by omega
      have h1 : zs.any strangeB = false := by
        have := HS.out
        rwa [List.take_of_length_le (by have := HZ.out.1; omega)] at this
      have H1 := Lib.hid h1
      clear h1 HS
      go_wp2_with fail
      go_ret
      exact ⟨_, rfl, by rw [H1.out]; rfl, rfl⟩

set_option maxRecDepth 100000 in
set_option maxHeartbeats 400000 in
theorem contains_any (A : Option Addr) (n c : Nat) (zs : List Int) (w : World) (B : Nat) (hn : n ≤ 9223372036854775807) (hz : Rd .i32 w B A n zs) :
    Calls Try.prog 11 #[.slice A n c, .func (.func 12) #[] #[]] w fun e w' => e = .returned (.bool (zs.any strangeB)) ∧ w = w' := by
  have HZ := Lib.hid hz
  clear hz
  go_enter Try.func11, Try.ntmps11
  go_wp2_with fail
  refine (index_any A n c zs w B hn HZ.out).mono ?_
  rintro e w' ⟨i, rfl, hi, rfl⟩
  have HI := Lib.hid hi
  clear hi
  go_wp2_with fail
  go_ret
  exact ⟨ret_bool HI.out, rfl⟩
end Go.Proofs.Ytlbfcahmmjmgjaa
