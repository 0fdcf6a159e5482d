/- WORDS for FnProgName: a slice of strings that reads as a list, nil let in; the place of a string in a list. No program. -/
import Derived.WalkKit
import Derived.Deep.Draws
import Derived.Laws.OwnMore
import Derived.Deep.AppendLies
namespace Go.Proofs.YtlbfcahmmjmgjaaDoor
open Go.RowKit

/-- The slice value '.slice A n c' holds the strings ls, below block B. -/
def Rs (w : World) (B : Nat) (A : Option Addr) (n : Nat) (ls : List ByteArray) : Prop :=
  ls.length = n ∧ (0 < n → ∃ b off, A = some ⟨b, off, none⟩ ∧ b < B ∧ ∀ j, j < n → w.cell? ⟨b, off + j, none⟩ = some (.string (ls.getD j ByteArray.empty)))

section
variable {w w' : World} {B B' n : Nat} {A : Option Addr} {ls : List ByteArray}
theorem Rs.nil : Rs w B A 0 [] := ⟨rfl, fun h => absurd h (by omega)⟩
theorem Rs.keep (h : Rs w B A n ls) (hk : ∀ b o, b < B → w'.cell? ⟨b, o, none⟩ = w.cell? ⟨b, o, none⟩) : Rs w' B A n ls :=
  ⟨h.1, fun hn => by
    obtain ⟨b, off, e, hb, hc⟩ := h.2 hn
    exact ⟨b, off, e, hb, fun j hj => (hk _ _ hb).trans (hc j hj)⟩⟩
theorem Rs.more (h : Rs w B A n ls) (hB : B ≤ B') : Rs w B' A n ls :=
  ⟨h.1, fun hn => by
    obtain ⟨b, off, e, hb, hc⟩ := h.2 hn
    exact ⟨b, off, e, by omega, hc⟩⟩
theorem Rs.below (h : Rs w B A n ls) (hb : Below B w w') : Rs w' B A n ls := h.keep fun _ _ hp => hb.cell hp
theorem Rs.drewN (h : Rs w B A n ls) (m : Nat) : Rs (w.drewN m) B A n ls := h
theorem Rs.zero_of_none (h : Rs w B A n ls) : A = none → n = 0 := by
  rintro rfl
  rcases Nat.eq_zero_or_pos n with h0 | h0
  · exact h0
  · obtain ⟨b, off, e, _⟩ := h.2 h0
    cases e
theorem Rs.of_own {base : Nat} {e : TypeId} {c : Nat} (h : w.ownsRow base e 1 (.slice A n c) n (ls.map Value.string)) : Rs w w.heap.size A n ls := by
  have hl := h.1
  rw [List.length_map, Nat.mul_one] at hl
  refine ⟨hl, fun hn => ?_⟩
  obtain ⟨g, cap, hv, _, hlt⟩ := h.form hn
  have hA : A = some ⟨g, 0, none⟩ := by injection hv
  subst hA
  refine ⟨g, 0, rfl, hlt, fun j hj => ?_⟩
  have hc := h.cells (g := g) rfl j (.string (ls.getD j ByteArray.empty)) (by simp [List.getD, List.getElem?_eq_getElem (show j < ls.length by omega)])
  have e2 : (⟨g, 0, none⟩ : Addr).add j = ⟨g, 0 + j, none⟩ := by unfold Addr.add; split <;> simp_all
  rwa [e2] at hc
end
theorem below_drewN {B : Nat} {a w : World} (h : Below B a w) (n : Nat) : Below B a (w.drewN n) := ⟨h.os, h.tape, h.output, h.size, h.block⟩
theorem below_of_drew {B : Nat} {w1 w2 : World} (h : Below B w1.drew w2) : Below B w1 w2 := ⟨h.os, h.tape, h.output, h.size, h.block⟩
theorem ret_int {k : IntKind} {a b : Int} (h : a = b) : Ending.returned (.int k a) = .returned (.int k b) := by rw [h]

/-- The first place of s, counted from k; -1 where it is not in. -/
def idxFrom (s : ByteArray) : List ByteArray → Nat → Int
  | [], _ => -1
  | x :: l, k => if (s.toList == x.toList) = true then (k : Int) else idxFrom s l (k + 1)
theorem idx_step (s : ByteArray) (ls : List ByteArray) (k : Nat) (h : k < ls.length) :
    idxFrom s (ls.drop k) k = if (s.toList == (ls.getD k ByteArray.empty).toList) = true then (k : Int) else idxFrom s (ls.drop (k + 1)) (k + 1) := by
  rw [List.drop_eq_getElem_cons h]
  simp [idxFrom, List.getD, List.getElem?_eq_getElem h]
theorem idx_end (s : ByteArray) (ls : List ByteArray) : idxFrom s (ls.drop ls.length) ls.length = -1 := by
  simp [idxFrom]
/-- What a name's number is. -/
def numOfName (s : ByteArray) (ls : List ByteArray) : Int := if s.size = 0 then -1 else idxFrom s ls 0
end Go.Proofs.YtlbfcahmmjmgjaaDoor
