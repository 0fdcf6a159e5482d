/- THE WALKS of PlainRunes, utf8.RuneLen and minInputLen at a literal: each answers the plain function; memory is as it was (a count of draws apart). -/
import Derived.Test.YtlbfcahmmjmgjaaProg
import Derived.Test.YtlbfcahmmjmgjaaMgRead
import Derived.Test.YtlbfcahmmjmgjaaLwPlain
import Derived.WalkSpells
import Derived.WalkLawsBesides
import Derived.Deep.QuietTactic
import Derived.BigQuiet
import Derived.Lib.Hide
namespace Go.Proofs.Ytlbfcahmmjmgjaa
open Go.RowKit

set_option maxRecDepth 100000 in
set_option maxHeartbeats 400000 in
theorem runeLen_any (x : Int) (w : World) :
    Calls Try.prog 25 #[.int .i32 x] w fun e w' => e = .returned (.int .i64 (runeLenI x)) ∧ w = w' := by
  go_enter Try.func25, Try.ntmps25
  go_wp2
  all_goals (go_ret; refine ⟨?_, rfl⟩; unfold runeLenI; (repeat' split) <;> first | rfl | (exfalso; omega))

set_option maxRecDepth 100000 in
set_option maxHeartbeats 800000 in
theorem plainRunes_any (A : Option Addr) (n c : Nat) (zs : List Int) (w : World) (B : Nat) (hn : n ≤ 50) (hz : Rd .i32 w B A n zs) :
    Calls Try.prog 9 #[.slice A n c] w fun e w' => e = .returned (.bool (!zs.any badB)) ∧ w = w' := by
  have HZ := Lib.hid hz
  clear hz
  go_enter Try.func9, Try.ntmps9
  go_wp2
  go_loop [7] (fun i => ∃ k : Nat, k ≤ n ∧ i = .int .i64 k ∧ Hid ((zs.take k).any badB = false)) (fun i => n - (intOf i).toNat)
  case atStart => exact ⟨0, Nat.zero_le _, rfl, Lib.hid rfl⟩
  case round =>
    obtain ⟨k, hk, rfl, HS⟩ := hrel
    by_cases hlt : k < n
    · obtain ⟨b, off, rfl, hb, hcz⟩ := HZ.out.2 (by omega)
      have hck := hcz k hlt
      obtain ⟨x, hx⟩ : ∃ x, x = zs.getD k 0 := ⟨_, rfl⟩
      rw [← hx] at hck
      have hstep := bad_step zs k (by have := HZ.out.1; omega)
      rw [HS.out, ← hx] at hstep
      have HST := Lib.hid hstep
      clear hcz hx hstep
      by_cases h1 : x < 0
      · have e : badB x = true := by simp [badB, h1]
        have HC := Lib.hid e
        clear e
        go_wp2_with fail
        go_ret
        refine ⟨ret_bool ?_, rfl⟩
        have hall : zs.any badB = true := by
          rw [← List.take_append_drop (k + 1) zs, List.any_append, HST.out, HC.out]; rfl
        rw [hall]; rfl
      by_cases h2 : 55296 ≤ x
      · by_cases h3 : x < 57344
        · have e : badB x = true := by simp [badB, h2, h3]
          have HC := Lib.hid e
          clear e
          go_wp2_with fail
          go_ret
          refine ⟨ret_bool ?_, rfl⟩
          have hall : zs.any badB = true := by
            rw [← List.take_append_drop (k + 1) zs, List.any_append, HST.out, HC.out]; rfl
          rw [hall]; rfl
        by_cases h4 : x = 65533
        · have e : badB x = true := by simp [badB, h4]
          have HC := Lib.hid e
          clear e
          go_wp2_with fail
          go_ret
          refine ⟨ret_bool ?_, rfl⟩
          have hall : zs.any badB = true := by
            rw [← List.take_append_drop (k + 1) zs, List.any_append, HST.out, HC.out]; rfl
          rw [hall]; rfl
        by_cases h5 : 1114111 < x
        · have e : badB x = true := by simp [badB, h5]
          have HC := Lib.hid e
          clear e
          go_wp2_with fail
          go_ret
          refine ⟨ret_bool ?_, rfl⟩
          have hall : zs.any badB = true := by
            rw [← List.take_append_drop (k + 1) zs, List.any_append, HST.out, HC.out]; rfl
          rw [hall]; rfl
        have e : badB x = false := by simp [badB]; omega
        have HC := Lib.hid e
        clear e
        go_wp2_with fail
        go_round
        case rel => exact ⟨k + 1, by omega, by go_num, Lib.hid (by rw [HST.out, HC.out]; rfl)⟩
        case measure => simp [intOf]; omega
      have h4 : ¬ x = 65533 := by omega
      have h5 : ¬ 1114111 < x := by omega
      have e : badB x = false := by simp [badB]; omega
      have HC := Lib.hid e
      clear e
      go_wp2_with fail
      go_round
      case rel => exact ⟨k + 1, by omega, by go_num, Lib.hid (by rw [HST.out, HC.out]; rfl)⟩
      case measure => simp [intOf]; omega
    · obtain rfl : k = n := by omega
      have h1 : zs.any badB = false := by
        have := HS.out
        rwa [List.take_of_length_le (by have := HZ.out.1; omega)] at this
      have H1 := Lib.hid h1
      clear h1 HS
      go_wp2_with fail
      go_ret
      exact ⟨by rw [H1.out]; rfl, rfl⟩

set_option maxRecDepth 100000 in
set_option maxHeartbeats 800000 in
/-- minInputLen at a literal of plain runes: their lengths in a row. -/
theorem minLen_any (g : Nat) (A : Option Addr) (n c : Nat) (zs : List Int) (w : World) (B : Nat) (hn : n ≤ 50) (hz : Rd .i32 w B A n zs) (hp : zs.any badB = false)
    (h0 : w.cell? ⟨g, 0, none⟩ = some (.int .u8 3)) (h4 : w.cell? ⟨g, 4, none⟩ = some (.slice A n c)) :
    Calls Try.prog 20 #[.pointer (some ⟨g, 0, none⟩)] w fun e w' => e = .returned (.int .i64 (lenSum zs)) ∧ w = w' := by
  have HZ := Lib.hid hz
  have HP := Lib.hid hp
  clear hz hp
  go_enter Try.func20, Try.ntmps20
  go_wp2
  go_loop [28, 3] (fun i s => ∃ k : Nat, ∃ t : Int, k ≤ n ∧ i = .int .i64 k ∧ s = .int .i64 t ∧ Hid (t = lenSum (zs.take k))) (fun i _ => n - (intOf i).toNat)
  case atStart => exact ⟨0, 0, Nat.zero_le _, rfl, rfl, Lib.hid rfl⟩
  case round =>
    obtain ⟨k, t, hk, rfl, rfl, HT⟩ := hrel
    have hr := lenSum_range _ (bad_take zs k HP.out)
    rw [← HT.out, List.length_take] at hr
    have hr1 : 0 ≤ t := hr.1
    have hr2 : t ≤ 200 := by omega
    clear hr
    by_cases hlt : k < n
    · obtain ⟨b, off, rfl, hb, hcz⟩ := HZ.out.2 (by omega)
      have hck := hcz k hlt
      obtain ⟨x, hx⟩ : ∃ x, x = zs.getD k 0 := ⟨_, rfl⟩
      rw [← hx] at hck
      have hbad := bad_at zs k (by have := HZ.out.1; omega) HP.out
      have hstep := lenSum_take zs k (by have := HZ.out.1; omega)
      rw [← HT.out, ← hx] at hstep
      rw [← hx] at hbad
      have hx1 : ¬ x = 65533 := by
        rintro rfl
        simp [badB] at hbad
      obtain ⟨m, hm⟩ : ∃ m, m = runeLenI x := ⟨_, rfl⟩
      have hmr := runeLenI_range x hbad
      rw [← hm] at hmr hstep
      have hm1 : 1 ≤ m := hmr.1
      have hm2 : m ≤ 4 := hmr.2
      have HST := Lib.hid hstep
      have HM := Lib.hid hm
      clear hcz hx hstep hbad hmr hm
      go_wp2_with fail
      refine (runeLen_any x _).mono ?_
      rintro e w' ⟨rfl, rfl⟩
      rw [← HM.out]
      go_wp2_with fail
      go_round
      case rel => exact ⟨k + 1, t + m, by omega, by go_num, rfl, Lib.hid HST.out.symm⟩
      case measure => simp [intOf]; omega
    · obtain rfl : k = n := by omega
      have h1 : t = lenSum zs := by
        have := HT.out
        rwa [List.take_of_length_le (by have := HZ.out.1; omega)] at this
      have H1 := Lib.hid h1
      clear h1 HT
      go_wp2_with fail
      go_ret
      exact ⟨ret_int H1.out, rfl⟩

set_option maxRecDepth 100000 in
set_option maxHeartbeats 800000 in
theorem zzMinLen_any (g : Nat) (A : Option Addr) (n c : Nat) (zs : List Int) (w : World) (B : Nat) (hn : n ≤ 50) (hz : Rd .i32 w B A n zs) (hp : zs.any badB = false)
    (h0 : w.cell? ⟨g, 0, none⟩ = some (.int .u8 3)) (h4 : w.cell? ⟨g, 4, none⟩ = some (.slice A n c)) :
    Calls Try.prog 16 #[.pointer (some ⟨g, 0, none⟩)] w fun e w' => e = .returned (.int .i64 (lenSum zs)) ∧ w = w' := by
  have H := Lib.hid (minLen_any g A n c zs w B hn hz hp h0 h4)
  clear hz hp h0 h4
  go_enter Try.func16, Try.ntmps16
  go_wp2_with fail
  refine H.out.mono ?_
  rintro e w' ⟨rfl, rfl⟩
  go_wp2_with fail
  go_ret
  exact ⟨rfl, rfl⟩
end Go.Proofs.Ytlbfcahmmjmgjaa
