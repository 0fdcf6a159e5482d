/- THE WALK of the law FnProgName: true of every list of names and every word. Condition: the listed table begins with 128. -/
import Derived.Test.YtlbfcahmmjmgjaaDoorPnMade
import Derived.Deep.Cut
namespace Go.Proofs.YtlbfcahmmjmgjaaDoor
open Go.RowKit

def NameTrue (w : World) (e : Ending) (w' : World) : Prop := e = .returned (.bool true) ∧ Below w.heap.size w w'

set_option maxRecDepth 100000 in
set_option maxHeartbeats 1600000 in
theorem law_name (A : Option Addr) (n c : Nat) (ls : List ByteArray) (s : ByteArray) (w : World) (hn : n ≤ 9223372036854775807) (hz : Rs w w.heap.size A n ls) (hg : w.cell? ⟨2, 0, none⟩ = some (.int .i64 128)) :
    Calls Tryd.prog 4 #[.slice A n c, .string s] w (NameTrue w) := by
  have HF := Lib.hid (fits_any A n c ls w w.heap.size hn hz)
  have HZ := Lib.hid hz
  have HG := Lib.hid hg
  clear hz hg
  go_enter Tryd.func4, Tryd.ntmps4
  go_wp2_with fail
  refine HF.out.mono ?_
  rintro e w' ⟨b, rfl, rfl⟩
  clear HF
  cases b with
  | false =>
    go_wp2
    go_ret
    exact ⟨rfl, Below.refl _ _⟩
  | true =>
    by_cases s1 : 2147483647 < s.size
    · go_wp2
      go_ret
      exact ⟨rfl, Below.refl _ _⟩
    go_upto_region 4 with (fail)
    obtain ⟨w2, hw2⟩ : ∃ w2, w2 = (w.alloc (.cells #[.int .i64 5, .int .i64 0, .int .i64 0, .slice none 0 0, .int .i64 4, .int .i64 0, .int .i64 0, .slice none 0 0] 29)).alloc (.cells #[.slice (some ⟨w.heap.size, 0, none⟩) 2 2, .int .i64 1, .slice A n c] 32) := ⟨_, rfl⟩
    have hb : Below w.heap.size w w2 := by
      rw [hw2]; exact ((Below.refl _ _).alloc (Nat.le_refl _) _).trans ((Below.refl _ _).alloc (by simp) _)
    have hT : Two w2 w.heap.size := by rw [hw2]; constructor <;> simp [go_sem]
    have hv : w2.cell? ⟨w.heap.size + 1, 0, none⟩ = some (.slice (some ⟨w.heap.size, 0, none⟩) 2 2) ∧ w2.cell? ⟨w.heap.size + 1, 1, none⟩ = some (.int .i64 1) ∧ w2.cell? ⟨w.heap.size + 1, 2, none⟩ = some (.slice A n c) := by
      rw [hw2]; simp [go_sem]
    have hz2 := (HZ.out.below hb).more hb.size
    have hg2 : w2.cell? ⟨2, 0, none⟩ = some (.int .i64 128) := (hb.cell (p := ⟨2, 0, none⟩) (World.block_lt_of_cell? _ _ HG.out)).trans HG.out
    rw [← hw2]
    generalize w.heap.size + 1 = V at hv ⊢
    obtain ⟨I, hI⟩ : ∃ I, I = w.heap.size := ⟨_, rfl⟩
    rw [← hI] at hT hv ⊢
    obtain ⟨v0, v1, v2⟩ := hv
    have HB := Lib.hid hb
    have HII := Lib.hid hI
    clear hw2 hb hI
    by_cases s2 : n < 1
    · have k1 : decide ((n : Int) < 1) = true := by simp; omega
      go_wp2
      go_ret
      exact ⟨rfl, HB.out⟩
    have k1 : decide ((n : Int) < 1) = false := by simp; omega
    by_cases s3 : 20 < n
    · have k2 : decide ((20 : Int) < (n : Int)) = true := by simp; omega
      go_wp2
      go_ret
      exact ⟨rfl, HB.out⟩
    have k2 : decide ((20 : Int) < (n : Int)) = false := by simp; omega
    have HP := Lib.hid (progName_any I A n c ls s w2 (by omega) (by omega) hT hz2 hg2)
    have HN := Lib.hid (show ∀ w', Below w2.heap.size w2 w' → Calls Tryd.prog 9 #[.slice A n c, .string s] w' fun e w'' => e = .returned (.int .i64 (numOfName s ls)) ∧ w' = w'' from fun w' hb => number_any A n c ls s w' w2.heap.size hn (hz2.below hb))
    obtain ⟨b, off, rfl, hbb, hcz⟩ := hz2.2 (by omega)
    have hc0 : w2.cell? ⟨b, off, none⟩ = some (.string (ls.getD 0 ByteArray.empty)) := hcz 0 (by omega)
    generalize ls.getD 0 ByteArray.empty = x at hc0
    generalize numOfName s ls = T at HP HN
    clear hcz hz2 hg2 hT HZ HG
    cases hx : x.toList.isEmpty with
    | false =>
      go_wp2
      go_ret
      exact ⟨rfl, HB.out⟩
    | true =>
      go_wp2_with fail
      refine HP.out.mono ?_
      rintro e w3 ⟨rfl, b3⟩
      have HN3 := Lib.hid (HN.out w3 b3)
      have HB3 := Lib.hid b3
      clear b3
      go_wp2_with fail
      refine HN3.out.mono ?_
      rintro e w4 ⟨rfl, rfl⟩
      go_wp2_with fail
      go_ret
      exact ⟨rfl, below_next HB.out HB3.out HB.out.size⟩
end Go.Proofs.YtlbfcahmmjmgjaaDoor
