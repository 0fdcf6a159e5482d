/- THE WALK of 'special' (the byte test of QuoteMeta): over the listed table it answers whether the byte is one of the fourteen signs. Condition: the table's cells hold the listed numbers. -/
import Derived.Test.YtlbfcahmmjmgjaaDoorProg
import Derived.WalkKit
import Derived.WalkSpells
import Derived.WalkLawsBesides
namespace Go.Proofs.YtlbfcahmmjmgjaaDoor
open Go.RowKit

/-- The table as it is listed. -/
def tab : List Int := [0, 0, 0, 0, 4, 0, 0, 0, 4, 4, 4, 164, 160, 160, 36, 8]

/-- The fourteen signs that mean something. -/
def signs : List UInt8 := [92, 46, 43, 42, 63, 40, 41, 124, 91, 93, 123, 125, 94, 36]

/-- Is a byte one of them? -/
def isSign (c : UInt8) : Bool := signs.contains c

/-- The listed table lies in the variable's cells. -/
def TabAt (w : World) : Prop := ∀ i, i < 16 → w.cell? ⟨1, i, none⟩ = some (.int .u8 (tab.getD i 0))

theorem bits_tab : ∀ n : Fin 128, (bits BinOp.and IntKind.u8 (tab.getD (n.val % 16) 0) (2 ^ (n.val / 16) % 256) != 0) = isSign (UInt8.ofNat n.val) := by decide +kernel
theorem high_no : ∀ n : Fin 128, isSign (UInt8.ofNat (n.val + 128)) = false := by decide +kernel

set_option maxRecDepth 100000 in
set_option maxHeartbeats 400000 in
theorem special_low (n : Nat) (hn : n < 128) (v : Int) (w : World) (hc : w.cell? ⟨1, n % 16, none⟩ = some (.int .u8 v)) :
    Calls Tryd.prog 16 #[.int .u8 (n : Int)] w fun e w' => e = .returned (.bool (bits BinOp.and IntKind.u8 v (2 ^ (n / 16) % 256) != 0)) ∧ w = w' := by
  go_enter Tryd.func16, Tryd.ntmps16
  go_wp2
  go_ret
  exact ⟨rfl, rfl⟩

set_option maxRecDepth 100000 in
set_option maxHeartbeats 400000 in
theorem special_high (n : Nat) (hn : ¬ n < 128) (w : World) :
    Calls Tryd.prog 16 #[.int .u8 (n : Int)] w fun e w' => e = .returned (.bool false) ∧ w = w' := by
  go_enter Tryd.func16, Tryd.ntmps16
  go_wp2
  go_ret
  exact ⟨rfl, rfl⟩

/-- 'special' answers whether the byte is one of the fourteen signs. -/
theorem special_any (c : UInt8) (w : World) (ht : TabAt w) :
    Calls Tryd.prog 16 #[.int .u8 (c.toNat : Int)] w fun e w' => e = .returned (.bool (isSign c)) ∧ w = w' := by
  have hc : c.toNat < 256 := c.toNat_lt
  by_cases h : c.toNat < 128
  · refine (special_low c.toNat h _ w (ht (c.toNat % 16) (Nat.mod_lt _ (by omega)))).mono fun e w' ⟨he, hw⟩ => ⟨?_, hw⟩
    rw [he, bits_tab ⟨c.toNat, h⟩]
    simp
  · refine (special_high c.toNat h w).mono fun e w' ⟨he, hw⟩ => ⟨?_, hw⟩
    have := high_no ⟨c.toNat - 128, by omega⟩
    simp only [show c.toNat - 128 + 128 = c.toNat by omega, UInt8.ofNat_toNat] at this
    rw [he, this]
end Go.Proofs.YtlbfcahmmjmgjaaDoor
