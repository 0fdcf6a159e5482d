/- WORDS: a slice of integers that reads as a list, nil let in; it stays as memory grows. No program. -/
import Derived.WalkKit
import Derived.Deep.Draws
import Derived.Laws.OwnMore
import Derived.Deep.AppendLies
namespace Go.Proofs.Ytlbfcahmmjmgjaa
open Go.RowKit

/-- The slice value '.slice A n c' holds the integers zs of kind k, below block B. -/
def Rd (k : IntKind) (w : World) (B : Nat) (A : Option Addr) (n : Nat) (zs : List Int) : Prop :=
  zs.length = n ∧ (0 < n → ∃ b off, A = some ⟨b, off, none⟩ ∧ b < B ∧ ∀ j, j < n → w.cell? ⟨b, off + j, none⟩ = some (.int k (zs.getD j 0)))

section
variable {k : IntKind} {w w' : World} {B B' n : Nat} {A : Option Addr} {zs : List Int}
theorem Rd.nil : Rd k w B A 0 [] := ⟨rfl, fun h => absurd h (by omega)⟩
theorem Rd.keep (h : Rd k w B A n zs) (hk : ∀ b o, b < B → w'.cell? ⟨b, o, none⟩ = w.cell? ⟨b, o, none⟩) : Rd k w' B A n zs :=
  ⟨h.1, fun hn => by
    obtain ⟨b, off, e, hb, hc⟩ := h.2 hn
    exact ⟨b, off, e, hb, fun j hj => (hk _ _ hb).trans (hc j hj)⟩⟩
theorem Rd.more (h : Rd k w B A n zs) (hB : B ≤ B') : Rd k w B' A n zs :=
  ⟨h.1, fun hn => by
    obtain ⟨b, off, e, hb, hc⟩ := h.2 hn
    exact ⟨b, off, e, by omega, hc⟩⟩
theorem Rd.below (h : Rd k w B A n zs) (hb : Below B w w') : Rd k w' B A n zs := h.keep fun _ _ hp => hb.cell hp
theorem Rd.drewN (h : Rd k w B A n zs) (m : Nat) : Rd k (w.drewN m) B A n zs := h
theorem Rd.of_own {base : Nat} {e : TypeId} {c : Nat} (h : w.ownsRow base e 1 (.slice A n c) n (zs.map (Value.int k))) : Rd k w w.heap.size A n zs := by
  have hl := h.1
  rw [List.length_map, Nat.mul_one] at hl
  refine ⟨hl, fun hn => ?_⟩
  obtain ⟨g, cap, hv, _, hlt⟩ := h.form hn
  have hA : A = some ⟨g, 0, none⟩ := by injection hv
  subst hA
  refine ⟨g, 0, rfl, hlt, fun j hj => ?_⟩
  have hc := h.cells (g := g) rfl j (.int k (zs.getD j 0)) (by simp [List.getD, List.getElem?_eq_getElem (show j < zs.length by omega)])
  have e2 : (⟨g, 0, none⟩ : Addr).add j = ⟨g, 0 + j, none⟩ := by unfold Addr.add; split <;> simp_all
  rwa [e2] at hc
end
theorem below_drewN {B : Nat} {a w : World} (h : Below B a w) (n : Nat) : Below B a (w.drewN n) := ⟨h.os, h.tape, h.output, h.size, h.block⟩
theorem ret_int {k : IntKind} {a b : Int} (h : a = b) : Ending.returned (.int k a) = .returned (.int k b) := by rw [h]
theorem ret_bool {a b : Bool} (h : a = b) : Ending.returned (.bool a) = .returned (.bool b) := by rw [h]
end Go.Proofs.Ytlbfcahmmjmgjaa
