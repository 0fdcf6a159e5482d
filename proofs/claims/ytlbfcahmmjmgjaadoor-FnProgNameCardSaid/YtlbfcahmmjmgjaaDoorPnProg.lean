/- THE WALKS of StartCond, shouldBacktrack, maxBitStateLen at the program that the law makes: each answers a number; memory is as it was. -/
import Derived.Test.YtlbfcahmmjmgjaaDoorProg
import Derived.Test.YtlbfcahmmjmgjaaDoorPnRead
import Derived.WalkSpells
import Derived.WalkLawsBesides
import Derived.Lib.Hide
import Derived.WalkMore
namespace Go.Proofs.YtlbfcahmmjmgjaaDoor
open Go.RowKit

/-- The program that the law makes: two instructions, the second a match; it begins at the second. -/
structure PAt (w : World) (p a c : Nat) (cap : Int) : Prop where
  insts : w.cell? ⟨p, 0, none⟩ = some (.slice (some ⟨a, 0, none⟩) 2 c)
  start : w.cell? ⟨p, 1, none⟩ = some (.int .i64 1)
  caps : w.cell? ⟨p, 2, none⟩ = some (.int .i64 cap)
  op : w.cell? ⟨a, 4, none⟩ = some (.int .u8 4)
theorem PAt.below {w w' : World} {p a c : Nat} {cap : Int} (h : PAt w p a c cap) (hb : Below w.heap.size w w') : PAt w' p a c cap :=
  ⟨(hb.cell (World.block_lt_of_cell? _ _ h.insts)).trans h.insts, (hb.cell (World.block_lt_of_cell? _ _ h.start)).trans h.start,
    (hb.cell (World.block_lt_of_cell? _ _ h.caps)).trans h.caps, (hb.cell (World.block_lt_of_cell? _ _ h.op)).trans h.op⟩
theorem PAt.drew {w : World} {p a c : Nat} {cap : Int} (h : PAt w p a c cap) : PAt w.drew p a c cap := ⟨h.insts, h.start, h.caps, h.op⟩

set_option maxRecDepth 100000 in
set_option maxHeartbeats 400000 in
theorem should_any {w : World} {p a c : Nat} {cap : Int} (h : PAt w p a c cap) :
    Calls Tryd.prog 23 #[.pointer (some ⟨p, 0, none⟩)] w fun e w' => e = .returned (.bool true) ∧ w = w' := by
  have h1 := h.insts
  clear h
  go_enter Tryd.func23, Tryd.ntmps23
  go_wp2
  go_ret
  exact ⟨rfl, rfl⟩

set_option maxRecDepth 100000 in
set_option maxHeartbeats 400000 in
theorem maxBit_any {w : World} {p a c : Nat} {cap : Int} (h : PAt w p a c cap) :
    Calls Tryd.prog 21 #[.pointer (some ⟨p, 0, none⟩)] w fun e w' => e = .returned (.int .i64 131072) ∧ w = w' := by
  have h1 := h.insts
  have HS := Lib.hid (should_any h)
  clear h
  go_enter Tryd.func21, Tryd.ntmps21
  go_wp2_with fail
  refine HS.out.mono ?_
  rintro e w' ⟨rfl, rfl⟩
  go_wp2_with fail
  go_ret
  exact ⟨rfl, rfl⟩

set_option maxRecDepth 100000 in
set_option maxHeartbeats 400000 in
theorem startCond_any {w : World} {p a c : Nat} {cap : Int} (h : PAt w p a c cap) :
    Calls Tryd.prog 20 #[.pointer (some ⟨p, 0, none⟩)] w fun e w' => e = .returned (.int .u8 0) ∧ w = w' := by
  have h1 := h.insts
  have h2 := h.start
  have h3 := h.op
  clear h
  go_enter Tryd.func20, Tryd.ntmps20
  go_wp2
  go_step3
  go_wp2
  go_step3
  go_wp2
  go_loop [3, 4, 5] (fun x y z => x = .int .u8 0 ∧ y = .int .u32 1 ∧ z = .pointer (some ⟨a, 4, none⟩)) (fun _ _ _ => 0)
  case atStart => exact ⟨rfl, rfl, rfl⟩
  case round =>
    obtain ⟨rfl, rfl, rfl⟩ := hrel
    go_wp2
    go_ret
    exact ⟨rfl, rfl⟩
end Go.Proofs.YtlbfcahmmjmgjaaDoor
