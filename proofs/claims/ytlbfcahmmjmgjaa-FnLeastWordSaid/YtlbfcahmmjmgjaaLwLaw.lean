/- THE WALK of the law FnLeastWord: true of every word of runes; of what was there nothing has turned. -/
import Derived.Test.YtlbfcahmmjmgjaaLwTree
import Derived.Deep.RegionHeld3
namespace Go.Proofs.Ytlbfcahmmjmgjaa
open Go.RowKit

def WordTrue (w : World) (e : Ending) (w' : World) : Prop := e = .returned (.bool true) ∧ Below w.heap.size w w'

theorem conv_at {w' : World} {B n c : Nat} {A : Option Addr} {zs : List Int} (h : Rd .i32 w' B A n zs) :
    (convert 22 9 (.slice A n c)).run Try.prog w' = .ok (.string (runesBytes zs)) w' := by
  cases A with
  | none =>
    obtain rfl := h.zero_of_none rfl
    obtain rfl : zs = [] := List.eq_nil_of_length_eq_zero h.1
    exact run_convert_runes_nil w' 22 9 21 0 c Try.underlying22 Try.underlying21 Try.underlying9
  | some a =>
    have hl := h.1
    have e := run_convert_runes w' 22 9 21 a n c zs (by omega) Try.underlying22 Try.underlying21 Try.underlying9 (fun j hj => by
      obtain ⟨b, off, e, _, hc⟩ := h.2 (by omega)
      obtain rfl := Option.some.inj e
      rw [Go.WideShapes.add_plain]
      exact hc j (by omega))
    rwa [List.take_of_length_le (by omega)] at e

set_option maxRecDepth 100000 in
set_option maxHeartbeats 1600000 in
theorem law_word (A : Option Addr) (n c : Nat) (zs : List Int) (w : World) (hn : n ≤ 9223372036854775807) (hz : Rd .i32 w w.heap.size A n zs) :
    Calls Try.prog 4 #[.slice A n c] w (WordTrue w) := by
  have HZ := Lib.hid hz
  clear hz
  by_cases s1 : 2147483647 < n
  · go_enter Try.func4, Try.ntmps4
    go_wp2
    go_ret
    exact ⟨rfl, Below.refl _ _⟩
  by_cases s2 : 50 < n
  · have d1 : decide ((50 : Int) < (n : Int)) = true := by simp; omega
    go_enter Try.func4, Try.ntmps4
    go_wp2
    go_quiet (fail)
    go_wp2
    go_ret
    exact ⟨rfl, below_drewN (Below.refl _ _) _⟩
  have d1 : decide ((50 : Int) < (n : Int)) = false := by simp; omega
  by_cases s3 : n = 0
  · subst s3
    go_enter Try.func4, Try.ntmps4
    go_wp2
    go_quiet (fail)
    go_wp2
    go_ret
    exact ⟨rfl, below_drewN (Below.refl _ _) _⟩
  have d2 : ((n : Int) == 0) = false := by simp; omega
  cases hp : zs.any badB with
  | true =>
    have HP := Lib.hid (show ∀ w', Rd .i32 w' w.heap.size A n zs → Calls Try.prog 9 #[.slice A n c] w' fun e w'' => e = .returned (.bool false) ∧ w'' = w' from fun w' h =>
      (plainRunes_any A n c zs w' w.heap.size (by omega) h).mono fun e w'' ⟨h1, h2⟩ => ⟨by rw [h1, hp]; rfl, h2.symm⟩)
    clear hp
    go_enter Try.func4, Try.ntmps4
    go_wp2
    go_quiet (first | (go_at_call 9; exact Calls.quiet_of_same (HP.out _ (HZ.out.drewN _))))
    go_wp2
    go_ret
    exact ⟨rfl, below_drewN (Below.refl _ _) _⟩
  | false =>
    have hlen := bytes_len zs hp
    have HC := Lib.hid (plainRunes_any A n c zs w.drew w.heap.size (by omega) HZ.out)
    have HL := Lib.hid (least_any A n c zs w.drew (by omega) HZ.out hp)
    rw [hp] at HC
    rw [← hlen] at HL
    have q0 := conv_at (n := n) (c := c) (w' := w.drew) HZ.out
    obtain ⟨s, hs⟩ : ∃ s, s = runesBytes zs := ⟨_, rfl⟩
    rw [← hs] at HL q0
    have HS := Lib.hid hs
    clear hlen hp hs
    unfold litNode at HL
    go_enter Try.func4, Try.ntmps4
    go_wp2_with fail
    go_region_held3 (fun w' => (convert 22 9 (.slice A n c)).run Try.prog w' = .ok (.string s) w') (first | exact q0 | exact q1)
      (first | (go_at_call 9; refine HC.out.mono ?_; rintro e w' ⟨rfl, rfl⟩) | (go_at_call 10; refine HL.out.mono ?_; rintro e w2 ⟨rfl, b2⟩; have q1 := conv_at (n := n) (c := c) (w' := w2) ((HZ.out.drewN 1).below b2); rw [← HS.out] at q1))
    have hbb : Below w.heap.size w w2 := ⟨b2.os, b2.tape, b2.output, b2.size, b2.block⟩
    go_wp2
    go_ret
    exact ⟨rfl, hbb⟩
end Go.Proofs.Ytlbfcahmmjmgjaa
