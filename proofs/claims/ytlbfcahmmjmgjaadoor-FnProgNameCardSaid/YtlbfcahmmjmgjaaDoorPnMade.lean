/- THE WALKS of made and ProgName: the name's number; of what was there nothing has turned. -/
import Derived.Test.YtlbfcahmmjmgjaaDoorPnProgOf
import Derived.Test.YtlbfcahmmjmgjaaDoorPnOf
import Derived.Test.YtlbfcahmmjmgjaaDoorPnSmall
import Derived.Test.YtlbfcahmmjmgjaaDoorPnShelf
namespace Go.Proofs.YtlbfcahmmjmgjaaDoor
open Go.RowKit

/-- A slice that reads as ls. -/
def GivesStr (ls : List ByteArray) (w : World) (e : Ending) (w' : World) : Prop :=
  ∃ A c, e = .returned (.slice A ls.length c) ∧ Rs w' w'.heap.size A ls.length ls ∧ Below w.heap.size w w'

theorem cloneStr_any (A : Option Addr) (n c : Nat) (ls : List ByteArray) (w : World) (hn0 : 1 ≤ n) (hn : n ≤ 20) (hz : Rs w w.heap.size A n ls) :
    Calls Tryd.prog 19 #[.slice A n c] w (GivesStr ls w) := by
  obtain ⟨b, off, rfl, hb, hc⟩ := hz.2 (by omega)
  have hl := hz.1
  refine (Tryd.slices_Clone_string b off n c ls w (by omega) (by omega) (fun j hj => hc j (by omega))).mono ?_
  rintro e w' ⟨v', rfl, hown, _, hbel⟩
  rw [List.take_of_length_le (by omega)] at hown
  obtain ⟨g, cap, rfl, _, _⟩ := hown.form (by omega)
  subst hl
  exact ⟨_, cap, rfl, Rs.of_own hown, hbel⟩

/-- A pointer to an expression whose names read as ls. -/
def GivesMade (ls : List ByteArray) (w : World) (e : Ending) (w' : World) : Prop :=
  ∃ r A c, e = .returned (.pointer (some ⟨r, 0, none⟩)) ∧ w'.cell? ⟨r, 5, none⟩ = some (.slice A ls.length c) ∧ Rs w' w'.heap.size A ls.length ls ∧ Below w.heap.size w w'

theorem below_next {B : Nat} {w0 w1 w2 : World} (h : Below B w0 w1) (h2 : Below w1.heap.size w1 w2) (hB : B ≤ w1.heap.size) : Below B w0 w2 := h.trans (h2.mono hB)

set_option maxRecDepth 100000 in
set_option maxHeartbeats 1600000 in
theorem made_any (I : Nat) (A : Option Addr) (n c : Nat) (ls : List ByteArray) (w : World) (hn0 : 1 ≤ n) (hn : n ≤ 20) (h : Two w I) (hz : Rs w w.heap.size A n ls) (hg : w.cell? ⟨2, 0, none⟩ = some (.int .i64 128)) :
    Calls Tryd.prog 12 #[.agg #[.slice (some ⟨I, 0, none⟩) 2 2, .int .i64 1, .slice A n c], .bool false] w (GivesMade ls w) := by
  have HN := Lib.hid hn0
  have HN2 := Lib.hid hn
  have HL := Lib.hid hz.1
  obtain ⟨w1, hw1⟩ : ∃ w1, w1 = w.alloc (.cells #[.slice (some ⟨I, 0, none⟩) 2 2, .int .i64 1, .slice A n c] 32) := ⟨_, rfl⟩
  obtain ⟨g, hgg⟩ : ∃ g, g = w.heap.size := ⟨_, rfl⟩
  have b1 : Below w.heap.size w w1 := by rw [hw1]; exact (Below.refl _ _).alloc (Nat.le_refl _) _
  have c0 : w1.cell? ⟨g, 0, none⟩ = some (.slice (some ⟨I, 0, none⟩) 2 2) := by rw [hw1, hgg]; simp [go_sem]
  have c1 : w1.cell? ⟨g, 1, none⟩ = some (.int .i64 1) := by rw [hw1, hgg]; simp [go_sem]
  have c2 : w1.cell? ⟨g, 2, none⟩ = some (.slice A n c) := by rw [hw1, hgg]; simp [go_sem]
  have lg : g < w1.heap.size := World.block_lt_of_cell? _ _ c0
  have h2 := h.below b1
  have hz2 := (hz.below b1).more b1.size
  have hg2 : w1.cell? ⟨2, 0, none⟩ = some (.int .i64 128) := (b1.cell (p := ⟨2, 0, none⟩) (World.block_lt_of_cell? _ _ hg)).trans hg
  have HG := Lib.hid (show ∀ w', Below w1.heap.size w1 w' → w'.cell? ⟨2, 0, none⟩ = some (.int .i64 128) from fun w' hb => (hb.cell (p := ⟨2, 0, none⟩) (World.block_lt_of_cell? _ _ hg2)).trans hg2)
  have HP := Lib.hid (show ∀ w', Below w1.heap.size w1 w' → Calls Tryd.prog 18 #[.agg #[.slice (some ⟨I, 0, none⟩) 2 2, .int .i64 1, .slice A n c]] w' (GivesProg n w') from fun w' hb => progOf_any I A n c w' hn (h2.below hb))
  have HC := Lib.hid (show ∀ w', Below w1.heap.size w1 w' → Calls Tryd.prog 19 #[.slice A n c] w' (GivesStr ls w') from fun w' hb => cloneStr_any A n c ls w' hn0 hn ((hz2.below hb).more hb.size))
  have b0 : Below w1.heap.size w1 w1.drew := below_drewN (Below.refl _ _) 1
  have B1 := Lib.hid b1
  clear h hz hg h2 hz2 hg2 b1
  go_enter Tryd.func12, Tryd.ntmps12
  go_wp2_with fail
  rw [← hw1, ← hgg]
  have GG := Lib.hid hgg
  clear hw1 hgg hn0 hn
  go_region_held3 (fun w' => w'.cell? ⟨g, 0, none⟩ = some (.slice (some ⟨I, 0, none⟩) 2 2) ∧ w'.cell? ⟨g, 1, none⟩ = some (.int .i64 1) ∧ w'.cell? ⟨g, 2, none⟩ = some (.slice A n c))
    (first | exact ⟨c0, c1, c2⟩ | exact ⟨d0, d1, d2⟩ | exact ⟨e0, e1, e2⟩ | exact ⟨f0, f1, f2⟩)
    (first
      | (go_at_call 18; refine (HP.out _ b0).mono ?_; rintro e wp ⟨p, a, pc, rfl, hp, bp⟩; have bP := below_next b0 bp b0.size; have d0 := (bP.cell (p := ⟨g, 0, none⟩) lg).trans c0; have d1 := (bP.cell (p := ⟨g, 1, none⟩) lg).trans c1; have d2 := (bP.cell (p := ⟨g, 2, none⟩) lg).trans c2)
      | (go_at_call 18; refine (HP.out _ bC).mono ?_; rintro e wp ⟨p, a, pc, rfl, hp, bp⟩; have bF := below_next bC bp bC.size; have hF := hp; have rF := (rc.below bp).more bp.size; have e0 := (bF.cell (p := ⟨g, 0, none⟩) lg).trans c0; have e1 := (bF.cell (p := ⟨g, 1, none⟩) lg).trans c1; have e2 := (bF.cell (p := ⟨g, 2, none⟩) lg).trans c2)
      | (go_at_call 19; refine (HC.out _ b0).mono ?_; rintro e wc ⟨A', c', rfl, rc, bc⟩; have bC := below_next b0 bc b0.size; have d0 := (bC.cell (p := ⟨g, 0, none⟩) lg).trans c0; have d1 := (bC.cell (p := ⟨g, 1, none⟩) lg).trans c1; have d2 := (bC.cell (p := ⟨g, 2, none⟩) lg).trans c2)
      | (go_at_call 19; refine (HC.out _ bP).mono ?_; rintro e wc ⟨A', c', rfl, rc, bc⟩; have bF := below_next bP bc bP.size; have hF := hp.below bc; have rF := rc; have e0 := (bF.cell (p := ⟨g, 0, none⟩) lg).trans c0; have e1 := (bF.cell (p := ⟨g, 1, none⟩) lg).trans c1; have e2 := (bF.cell (p := ⟨g, 2, none⟩) lg).trans c2)
      | (go_at_call 17; refine (zzOf_any A' ls.length c' (by rw [HL.out]; exact HN.out) (by rw [HL.out]; exact HN2.out) (by rw [HL.out]; exact hF) (HG.out _ bF)).mono ?_; rintro e wr ⟨r, rfl, f5, br⟩; have bR := below_next bF br bF.size; have rR := (rF.below br).more br.size; have f0 := (bR.cell (p := ⟨g, 0, none⟩) lg).trans c0; have f1 := (bR.cell (p := ⟨g, 1, none⟩) lg).trans c1; have f2 := (bR.cell (p := ⟨g, 2, none⟩) lg).trans c2))
  all_goals
    have hB := below_next B1.out bR B1.out.size
    have HB := Lib.hid hB
    have HR := Lib.hid rR
    clear hB rR
    go_wp2
    go_ret
    exact ⟨r, A', c', rfl, f5, HR.out, HB.out⟩

set_option maxRecDepth 100000 in
set_option maxHeartbeats 1600000 in
theorem progName_any (I : Nat) (A : Option Addr) (n c : Nat) (ls : List ByteArray) (s : ByteArray) (w : World) (hn0 : 1 ≤ n) (hn : n ≤ 20) (h : Two w I) (hz : Rs w w.heap.size A n ls) (hg : w.cell? ⟨2, 0, none⟩ = some (.int .i64 128)) :
    Calls Tryd.prog 8 #[.agg #[.slice (some ⟨I, 0, none⟩) 2 2, .int .i64 1, .slice A n c], .string s] w fun e w' => e = .returned (.int .i64 (numOfName s ls)) ∧ Below w.heap.size w w' := by
  have hb1 : Below w.heap.size w (w.alloc (.cells #[.slice (some ⟨I, 0, none⟩) 2 2, .int .i64 1, .slice A n c] 32)) := (Below.refl _ _).alloc (Nat.le_refl _) _
  have HM := Lib.hid (made_any I A n c ls _ hn0 hn (h.below hb1) ((hz.below hb1).more hb1.size) ((hb1.cell (p := ⟨2, 0, none⟩) (World.block_lt_of_cell? _ _ hg)).trans hg))
  have HB1 := Lib.hid hb1
  have HL := Lib.hid (show ls.length ≤ 9223372036854775807 by have := hz.1; omega)
  clear h hz hg hb1
  go_enter Tryd.func8, Tryd.ntmps8
  go_wp2_with fail
  refine HM.out.mono ?_
  rintro e w2 ⟨r, A2, k2, rfl, f5, r2, b2⟩
  have HS := Lib.hid (subexp_any r A2 ls.length k2 ls s w2 w2.heap.size HL.out r2 f5)
  have HB2 := Lib.hid b2
  clear r2 b2 f5
  go_wp2_with fail
  refine HS.out.mono ?_
  rintro e w3 ⟨rfl, rfl⟩
  go_wp2_with fail
  go_ret
  exact ⟨rfl, below_next HB1.out HB2.out HB1.out.size⟩
end Go.Proofs.YtlbfcahmmjmgjaaDoor
