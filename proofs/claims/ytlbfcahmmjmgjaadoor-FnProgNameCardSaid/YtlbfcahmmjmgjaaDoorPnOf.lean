/- THE WALK of ZZOf: a new expression that bears the names; of what was there nothing has turned. Condition: the listed table begins with 128. -/
import Derived.Test.YtlbfcahmmjmgjaaDoorPnProg
import Derived.Deep.RegionHeld3
import Derived.Deep.QuietTactic
import Derived.BigQuiet
import Derived.IntWalk
namespace Go.Proofs.YtlbfcahmmjmgjaaDoor
open Go.RowKit

/-- A pointer to an expression that bears the names .slice A n c. -/
def GivesRe (A : Option Addr) (n c : Nat) (w : World) (e : Ending) (w' : World) : Prop :=
  ∃ r, e = .returned (.pointer (some ⟨r, 0, none⟩)) ∧ w'.cell? ⟨r, 5, none⟩ = some (.slice A n c) ∧ Below w.heap.size w w'

set_option maxRecDepth 100000 in
set_option maxHeartbeats 800000 in
theorem zzOf_any {w : World} {p a pc : Nat} (A : Option Addr) (n c : Nat) (hn0 : 1 ≤ n) (hn : n ≤ 20) (h : PAt w p a pc (2 * (n : Int))) (hg : w.cell? ⟨2, 0, none⟩ = some (.int .i64 128)) :
    Calls Tryd.prog 17 #[.pointer (some ⟨p, 0, none⟩), .slice A n c, .bool false] w (GivesRe A n c w) := by
  have h1 := h.caps
  have h2 := h.insts
  obtain ⟨q, hq⟩ : ∃ q : Int, q = 2 * (n : Int) := ⟨_, rfl⟩
  rw [← hq] at h1 h
  have hq2 : 2 ≤ q := by omega
  have hq3 : q ≤ 40 := by omega
  have HC := Lib.hid (startCond_any h.drew)
  have HM := Lib.hid (maxBit_any h.drew)
  have j1 : IntKind.i64.wrap ((n : Int) - 1) = (n : Int) - 1 := IntWalk.i64_in _ (by omega)
  have hnq : (q < 2) = False := eq_false (by omega)
  have hp := World.block_lt_of_cell? _ _ h1
  have hp' : p < w.heap.size := hp
  have l2 := World.block_lt_of_cell? _ _ hg
  clear h hq
  go_enter Tryd.func17, Tryd.ntmps17
  go_wp2_with fail
  go_region_held3 (fun w' => w'.cell? ⟨p, 2, none⟩ = some (.int .i64 q)) (first | exact h1 | exact (World.cell?_alloc_lt w _ _ hp).trans h1)
    (first | (go_at_call 20; refine HC.out.mono ?_; rintro e w' ⟨rfl, rfl⟩) | (go_at_call 21; refine HM.out.mono ?_; rintro e w' ⟨rfl, rfl⟩))
  all_goals
    rename_i hh
    clear hh
    obtain ⟨w3, hw3⟩ : ∃ w3, w3 = (w.alloc (.cells #[.string ⟨#[]⟩, .pointer (some ⟨p, 0, none⟩), .pointer none, .int .i64 ((n : Int) - 1), .int .i64 131072, .slice A n c, .string ⟨#[]⟩, .slice none 0 0, .int .i32 0, .int .u32 0, .int .i64 0, .int .i64 q, .bool false, .int .u8 0, .int .i64 0, .bool false] 49)).drew := ⟨_, rfl⟩
    rw [← hw3]
    obtain ⟨r, hr⟩ : ∃ r, r = w.heap.size := ⟨_, rfl⟩
    rw [← hr]
    have f10 : w3.cell? ⟨r, 10, none⟩ = some (.int .i64 0) := by rw [hw3, hr]; simp [go_sem]
    have f5 : w3.cell? ⟨r, 5, none⟩ = some (.slice A n c) := by rw [hw3, hr]; simp [go_sem]
    have fg : w3.cell? ⟨2, 0, none⟩ = some (.int .i64 128) := by rw [hw3]; exact (World.cell?_alloc_lt w _ _ l2).trans hg
    have fp : w3.cell? ⟨p, 0, none⟩ = some (.slice (some ⟨a, 0, none⟩) 2 pc) := by rw [hw3]; exact (World.cell?_alloc_lt w _ _ hp).trans h2
    have hb : Below w.heap.size w w3 := by rw [hw3]; exact below_drewN ((Below.refl _ _).alloc (Nat.le_refl _) _) 1
    have HB := Lib.hid hb
    clear hb hr hw3 hg h1 h2 hp hp' l2 HC HM j1 hnq
    go_wp2
    go_loop [45] (fun _ => True) (fun _ => 0)
    case atStart => trivial
    case round =>
      go_wp2
      go_quiet (fail)
      go_wp2
      go_ret
      exact ⟨r, rfl, f5, below_drewN HB.out _⟩
end Go.Proofs.YtlbfcahmmjmgjaaDoor
