/- THE WALKS of treeOf and Least at a literal. -/
import Derived.Test.YtlbfcahmmjmgjaaLwSmall
import Derived.Test.YtlbfcahmmjmgjaaMgClone
import Derived.Deep.RegionHeld3
namespace Go.Proofs.Ytlbfcahmmjmgjaa
open Go.RowKit

theorem below_of_drew {w1 w2 : World} (h : Below w1.drew.heap.size w1.drew w2) : Below w1.heap.size w1 w2 := ⟨h.os, h.tape, h.output, h.size, h.block⟩

/-- A pointer to a literal expression of the runes zs; of what was there nothing has turned. -/
def GivesTree (zs : List Int) (w : World) (e : Ending) (w' : World) : Prop :=
  ∃ g A' c', e = .returned (.pointer (some ⟨g, 0, none⟩)) ∧ w'.cell? ⟨g, 0, none⟩ = some (.int .u8 3) ∧ w'.cell? ⟨g, 4, none⟩ = some (.slice A' zs.length c') ∧ Rd .i32 w' w'.heap.size A' zs.length zs ∧ Below w.heap.size w w'

/-- A literal node, as a value. -/
def litNode (A : Option Addr) (n c : Nat) : Value := .agg #[.int .i64 3, .bool false, .bool false, .int .i64 0, .int .i64 0, .int .i64 0, .string ⟨#[]⟩, .slice A n c, .slice none 0 0]

theorem Rd.zero_of_none {k : IntKind} {w : World} {B n : Nat} {A : Option Addr} {zs : List Int} (h : Rd k w B A n zs) : A = none → n = 0 := by
  rintro rfl
  rcases Nat.eq_zero_or_pos n with h0 | h0
  · exact h0
  · obtain ⟨b, off, e, _⟩ := h.2 h0
    cases e

set_option maxRecDepth 100000 in
set_option maxHeartbeats 800000 in
theorem tree_any (A : Option Addr) (n c : Nat) (zs : List Int) (w : World) (hn : n ≤ 50) (hz : Rd .i32 w w.heap.size A n zs) :
    Calls Try.prog 17 #[litNode A n c] w (GivesTree zs w) := by
  have HZ := Lib.hid hz
  clear hz
  unfold litNode
  go_enter Try.func17, Try.ntmps17
  go_wp2_with fail
  obtain ⟨w1, hw1⟩ : ∃ w1, w1 = w.alloc (.cells #[.int .i64 3, .bool false, .bool false, .int .i64 0, .int .i64 0, .int .i64 0, .string ⟨#[]⟩, .slice A n c, .slice none 0 0] 34) := ⟨_, rfl⟩
  rw [← hw1]
  have hb1 : Below w.heap.size w w1 := by rw [hw1]; exact (Below.refl _ _).alloc (Nat.le_refl _) _
  have hs1 : w1.heap.size = w.heap.size + 1 := by rw [hw1]; simp
  obtain ⟨g, hg⟩ : ∃ g, g = w.heap.size := ⟨_, rfl⟩
  have hz1 : Rd .i32 w1 w1.heap.size A n zs := (HZ.out.below hb1).more hb1.size
  have hcs : w1.cell? ⟨g, 0, none⟩ = some (.int .i64 3) ∧ w1.cell? ⟨g, 1, none⟩ = some (.bool false) ∧ w1.cell? ⟨g, 2, none⟩ = some (.bool false) ∧ w1.cell? ⟨g, 3, none⟩ = some (.int .i64 0) ∧ w1.cell? ⟨g, 4, none⟩ = some (.int .i64 0) ∧
      w1.cell? ⟨g, 5, none⟩ = some (.int .i64 0) ∧ w1.cell? ⟨g, 6, none⟩ = some (.string ⟨#[]⟩) ∧ w1.cell? ⟨g, 7, none⟩ = some (.slice A n c) ∧ w1.cell? ⟨g, 8, none⟩ = some (.slice none 0 0) := by
    rw [hw1, hg]; simp [go_sem]
  obtain ⟨c0, c1, c2, c3, c4, c5, c6, c7, c8⟩ := hcs
  have hg1 : g < w1.heap.size := by omega
  rw [← hg]
  have HB1 := Lib.hid hb1
  have HG := Lib.hid hg
  have HS1 := Lib.hid hs1
  have HZ1 := Lib.hid hz1
  have HNZ := Lib.hid (show A = none → n = 0 from hz1.zero_of_none)
  have hzd : Rd .i32 w1.drew w1.drew.heap.size A n zs := hz1
  have HCL := Lib.hid (clone32_any A n c zs w1.drew (by omega) HNZ.out hzd)
  clear hw1 hb1 hg hs1 hz1 HZ hzd
  go_region_held3 (fun w' => w'.cell? ⟨g, 0, none⟩ = some (.int .i64 3) ∧ w'.cell? ⟨g, 3, none⟩ = some (.int .i64 0) ∧ w'.cell? ⟨g, 4, none⟩ = some (.int .i64 0) ∧ w'.cell? ⟨g, 5, none⟩ = some (.int .i64 0) ∧ w'.cell? ⟨g, 6, none⟩ = some (.string ⟨#[]⟩) ∧ w'.cell? ⟨g, 7, none⟩ = some (.slice A n c))
    (first | exact ⟨c0, c3, c4, c5, c6, c7⟩ | exact ⟨d0, d3, d4, d5, d6, d7⟩ | exact ⟨(World.cell?_alloc_lt w2 _ _ hg2).trans d0, (World.cell?_alloc_lt w2 _ _ hg2).trans d3, (World.cell?_alloc_lt w2 _ _ hg2).trans d4, (World.cell?_alloc_lt w2 _ _ hg2).trans d5, (World.cell?_alloc_lt w2 _ _ hg2).trans d6, (World.cell?_alloc_lt w2 _ _ hg2).trans d7⟩)
    (first | (go_at_call 14; refine HCL.out.mono ?_; rintro e w2 ⟨A2, k2, rfl, _, r2, b2⟩; have b3 := below_of_drew b2; have hg2 := Nat.lt_of_lt_of_le hg1 b3.size; have d0 := (b3.cell (p := ⟨g, 0, none⟩) hg1).trans c0; have d3 := (b3.cell (p := ⟨g, 3, none⟩) hg1).trans c3; have d4 := (b3.cell (p := ⟨g, 4, none⟩) hg1).trans c4; have d5 := (b3.cell (p := ⟨g, 5, none⟩) hg1).trans c5; have d6 := (b3.cell (p := ⟨g, 6, none⟩) hg1).trans c6; have d7 := (b3.cell (p := ⟨g, 7, none⟩) hg1).trans c7; have d1 := (b3.cell (p := ⟨g, 1, none⟩) hg1).trans c1; have d2 := (b3.cell (p := ⟨g, 2, none⟩) hg1).trans c2; have d8 := (b3.cell (p := ⟨g, 8, none⟩) hg1).trans c8; have R2 := Lib.hid r2; have B3 := Lib.hid b3; clear r2 b2 b3))
  rename_i hh
  clear hh c0 c1 c2 c3 c4 c5 c6 c7 c8 d0 d3 d4 d5 d6 d7 HS1 HZ1 HNZ HCL
  obtain ⟨w3, hw3⟩ : ∃ w3, w3 = w2.alloc (.cells #[.int .u8 (IntKind.u8.wrap 3), .int .u16 0, .slice none 0 0, .pointer none, .slice A2 zs.length k2, .int .i32 0, .int .i32 0, .int .i64 0, .int .i64 0, .int .i64 0, .string ⟨#[]⟩] 52) := ⟨_, rfl⟩
  rw [← hw3]
  have e1 : w3.cell? ⟨g, 1, none⟩ = some (.bool false) := by rw [hw3]; exact (World.cell?_alloc_lt w2 _ _ hg2).trans d1
  have e2 : w3.cell? ⟨g, 2, none⟩ = some (.bool false) := by rw [hw3]; exact (World.cell?_alloc_lt w2 _ _ hg2).trans d2
  have e8 : w3.cell? ⟨g, 8, none⟩ = some (.slice none 0 0) := by rw [hw3]; exact (World.cell?_alloc_lt w2 _ _ hg2).trans d8
  obtain ⟨q, hq⟩ : ∃ q, q = w2.heap.size := ⟨_, rfl⟩
  have f0 : w3.cell? ⟨q, 0, none⟩ = some (.int .u8 3) := by rw [hw3, hq]; simp [go_sem]; rfl
  have f4 : w3.cell? ⟨q, 4, none⟩ = some (.slice A2 zs.length k2) := by rw [hw3, hq]; simp [go_sem]
  have b23 : Below w2.heap.size w2 w3 := by rw [hw3]; exact (Below.refl _ _).alloc (Nat.le_refl _) _
  have R3 := Lib.hid ((R2.out.below b23).more b23.size)
  have hBB : Below w.heap.size w w3 := (HB1.out.trans (B3.out.mono HB1.out.size)).trans (b23.mono (Nat.le_trans HB1.out.size B3.out.size))
  have BB := Lib.hid hBB
  rw [← hq]
  clear hBB b23 hw3 hq d1 d2 d8 R2 B3 HB1 HG
  go_wp2_with fail
  go_loop [43] (fun i => i = .int .i64 0) (fun _ => 0)
  case atStart => rfl
  case round =>
    subst hrel
    go_wp2_with fail
    go_ret
    exact ⟨q, A2, k2, rfl, f0, f4, R3.out, BB.out⟩

set_option maxRecDepth 100000 in
set_option maxHeartbeats 800000 in
/-- Least at a literal of plain runes: their lengths in a row. -/
theorem least_any (A : Option Addr) (n c : Nat) (zs : List Int) (w : World) (hn : n ≤ 50) (hz : Rd .i32 w w.heap.size A n zs) (hp : zs.any badB = false) :
    Calls Try.prog 10 #[litNode A n c] w fun e w' => e = .returned (.int .i64 (lenSum zs)) ∧ Below w.heap.size w w' := by
  obtain ⟨o, ho⟩ : ∃ o, o = Obj.cells #[.int .i64 3, .bool false, .bool false, .int .i64 0, .int .i64 0, .int .i64 0, .string ⟨#[]⟩, .slice A n c, .slice none 0 0] 34 := ⟨_, rfl⟩
  have hb1 : Below w.heap.size w (w.alloc o) := (Below.refl _ _).alloc (Nat.le_refl _) _
  have hz1 := (hz.below hb1).more hb1.size
  have HT := Lib.hid (tree_any A n c zs (w.alloc o) hn hz1)
  have HB1 := Lib.hid hb1
  have HP := Lib.hid hp
  have HL := Lib.hid hz.1
  have HO := Lib.hid ho
  rw [ho] at HT HB1
  clear hz hz1 hb1 hp ho
  unfold litNode at HT ⊢
  go_enter Try.func10, Try.ntmps10
  go_wp2_with fail
  refine HT.out.mono ?_
  rintro e w2 ⟨q, A2, k2, rfl, f0, f4, r2, b2⟩
  have HM := Lib.hid (zzMinLen_any q A2 zs.length k2 zs w2 w2.heap.size (by rw [HL.out]; exact hn) r2 HP.out f0 f4)
  have HB2 := Lib.hid b2
  clear r2 b2 f0 f4
  go_wp2_with fail
  refine HM.out.mono ?_
  rintro e w3 ⟨rfl, rfl⟩
  go_wp2_with fail
  go_ret
  exact ⟨rfl, HB1.out.trans (HB2.out.mono HB1.out.size)⟩
end Go.Proofs.Ytlbfcahmmjmgjaa
