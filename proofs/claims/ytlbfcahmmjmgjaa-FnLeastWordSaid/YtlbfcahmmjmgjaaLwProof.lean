/- FnLeastWord holds: of every word of runes the law answers true; the word reads behind the call as it did. -/
import Derived.Test.YtlbfcahmmjmgjaaRows
import Derived.Test.YtlbfcahmmjmgjaaLwLaw
import Derived.ProofKit
import Derived.OpenShut
namespace Go.Proofs.Ytlbfcahmmjmgjaa
open Go.ChangeShapes Go.WideShapes Go.ChangeAt Go.RowKit

theorem Try.own : ownKnob Try.prog.godebug = none := by kernel_rfl
theorem Try.laidOut : laidOutB Try.prog = true := by kernel_rfl
theorem c21 : Try.prog.cellsOf 21 = 1 := by kernel_rfl

/-- A list of runes among the arguments, as the walk wants it. -/
theorem rd_of_open {H : Type} {enc : TypeId × Value → H} {W : World} {v : Value} {d : DataW H} {p : List MemPlace}
    (hv : ∃ a len cap, v = .slice a len cap) (h : DataW.Trod enc Try.prog W 0 (fun _ => true) true 22 v d p) :
    ∃ A n c zs, v = .slice A n c ∧ n ≤ 9223372036854775807 ∧ Rd .i32 W W.heap.size A n zs := by
  obtain ⟨a, len, cap, rfl⟩ := hv
  obtain ⟨fuel, hf⟩ := h
  rcases open_ints Try.underlying22 Try.underlying21 c21 hf with ⟨hcs, _⟩ | ⟨a', len', cap', zs, hcs, _, hl, hm, hz, _, hcell, _⟩
  · simp [Value.cells] at hcs
    obtain ⟨rfl, rfl, rfl⟩ := hcs
    exact ⟨none, 0, 0, [], rfl, by omega, Rd.nil⟩
  · simp [Value.cells] at hcs
    obtain ⟨rfl, rfl, rfl⟩ := hcs
    have hz' : zs.length = cap := by simpa using hz
    have hm' : cap ≤ 9223372036854775807 := hm
    refine ⟨some a', len, cap, zs.take len, rfl, by omega, by simp; omega, fun hp => ?_⟩
    obtain ⟨b, off, rfl, hc⟩ := ints_at hcell (by omega)
    refine ⟨b, off, rfl, World.block_lt_of_cell? _ _ (hc 0 (by omega)), fun j hj => ?_⟩
    rw [hc j (by omega)]
    simp [List.getD, hj]

set_option maxRecDepth 100000 in
theorem leastWord_lifted (os : Os) (started : os.Started) (H : Type) (enc : TypeId × Value → H) :
    ReturnsInHanded {} Try.checked os 4 .any (Rows.fnLeastWordSpec.pre6 enc Try.prog Try.f4 Rows.fnLeastWordRow.domain false) (Rows.fnLeastWordSpec.post enc Try.prog Try.f4 false true false false) := by
  refine returnsInHanded_of_change (C := Try.checked) Try.own started (by kernel_rfl) Try.func4
    (ChangeSpec.witness6 (enc := enc) (C := Try.checked) false ⟨#[], #[.slice none 0 0], []⟩ 8 (by kernel_rfl) (by kernel_rfl) (by kernel_rfl) (by kernel_rfl)) ?_
  intro W base args ds gs before hval0 hW _ _
  have hval : ∀ (j : Nat) t v, Try.f4.params[j]? = some t → args[j]? = some v → Value.okWide Try.prog W .any base t v := hval0
  have hW' := hW
  obtain ⟨p, q, hA0, hV, rfl, hfz, hnd⟩ := hW
  have hA : DataW.TrodAll enc Try.prog W 0 (fun _ => true) true Try.f4.params.toList args.toList ds p := hA0
  rw [Try.params4] at hA hval
  obtain ⟨v0, d0, rfl, rfl, h0⟩ := trodAll_one hA
  obtain ⟨rfl, rfl⟩ := trodVars_none hV
  clear hA0 hval0
  have k0 := h0
  obtain ⟨A0, n0, c0, L, rfl, hn0, hL⟩ := rd_of_open (okWide_slice Try.underlying22 (hval 0 22 v0 rfl rfl)) h0
  have hlt0 : ∀ x ∈ p, x.block < W.heap.size := fun x hx => by simpa using hW'.lt x (by simp [hx])
  refine (law_word A0 n0 c0 L W hn0 hL).mono fun e W' ⟨he, hbel⟩ => ?_
  subst he
  exact ⟨_, rfl, _, _, _, [], p, [], hW', trodAll_mk1 (shut_bool Try.underlying4 _), trodAll_mk1 (Below.trod Try.laidOut (by kernel_rfl) (of_decide_eq_true (by kernel_rfl)) k0 hbel hlt0),
    rfl, hbel.frame _, fun h => by cases h⟩

theorem leastWord_holds : Rows.FnLeastWordSaid :=
  OpenClaim.holds_of_wide 4 Try.f4 rfl rfl rfl rfl rfl rfl rfl ⟨rfl, rfl, rfl, rfl, rfl⟩ rfl rfl rfl rfl rfl (by kernel_rfl) Try.func4 (by kernel_rfl)
    (of_decide_eq_true (by kernel_rfl)) (by unfold Func.isWrapper; first | (rw [if_pos (by decide +kernel)]; kernel_rfl) | (rw [if_neg (by decide +kernel)]; exact ⟨rfl, rfl⟩))
    (fun os started H enc _ => leastWord_lifted os started H enc)
#print axioms leastWord_holds
end Go.Proofs.Ytlbfcahmmjmgjaa
