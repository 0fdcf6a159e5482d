/- A LAW for a region that draws its order and whose last operation z stores into a cell that the region has loaded: a load may be taken first where its cell is not written by any operation but z, and z waits for the load. (After the library's law on loads that are taken first, with z let out.) No program. -/
import Derived.Deep.RegionHeld3
import Derived.StillTail
namespace Go.Proofs.YtlbfcahmmjmgjaaDoor

section
variable {P : Program} {ops : Array Oper} {Q : Exit → Act → World → Prop} {md : Region.Mode} {S : World → Prop} {z : Nat}

/-- Whatever order is picked from here on, and S holds behind every operation but z. -/
def AnyT (P : Program) (md : Region.Mode) (ops : Array Oper) (Q : Exit → Act → World → Prop) (S : World → Prop) (z : Nat) : Nat → Array Bool → Act → World → Prop
  | 0, listed, a, w => Region.ready md ops listed = [] ∧ Q .normal a w
  | f + 1, listed, a, w =>
    (Region.ready md ops listed = [] → Q .normal a w) ∧
    ∀ i ∈ Region.ready md ops listed, wpOp P ops Q i (fun a' w' => (i ≠ z → S w') ∧ AnyT P md ops Q S z f (listed.setIfInBounds i true) a' w') a w

theorem any_of_T : ∀ (f : Nat) (listed : Array Bool) (a : Act) (w : World), AnyT P md ops Q S z f listed a w → wpAny P md ops Q f listed a w
  | 0, _, _, _, h => h
  | f + 1, _, _, _, h => ⟨h.1, fun i hi => wpOp_mono (fun a' w' h' => any_of_T f _ a' w' h'.2) (h.2 i hi)⟩

theorem listed_false {listed : Array Bool} {i : Nat} (h0 : listed.getD i true = false) : listed.getD i false = false := by
  rcases Nat.lt_or_ge i listed.size with h' | h'
  · simp [h'] at h0 ⊢; exact h0
  · simp [Array.getElem?_eq_none h']

/-- An operation i that yields its value in every world that meets S may be taken first, where z waits for i. -/
theorem T_first {i : Nat} {oi : Oper} {v : Value} (hi : ops[i]? = some oi) (hsel : ∀ (j : Nat) (o : Oper) cs b, ops[j]? = some o → o.op ≠ .select cs b)
    (hQ : ∀ c a w, Q (.panic c) (a.put oi.dst v) w → Q (.panic c) a w) (hz : Region.waitsFor md ops z i = true) (hiz : i ≠ z) :
    ∀ (f : Nat) (listed : Array Bool) (a : Act) (w : World),
      (∀ j oj, ops[j]? = some oj → j ≠ i → listed.getD j true = false → (∀ e ∈ oj.after, Region.binds md e = true → e.on ≠ i) → oi.apart ops oj = true) →
      i ∈ Region.ready md ops listed → YieldsIf P ops S oi v a → S w →
      AnyT P md ops Q S z f (listed.setIfInBounds i true) (a.put oi.dst v) w → AnyT P md ops Q S z (f + 1) listed a w := by
  intro f
  induction f with
  | zero =>
    intro listed a w _ hr hy hS H
    refine ⟨fun h => (by rw [h] at hr; cases hr), fun j hj => ?_⟩
    by_cases hji : j = i
    · subst hji; exact hy.wpOp hi hS ⟨fun _ => hS, H⟩
    · have := ready_mono hj hji
      rw [H.1] at this
      cases this
  | succ f ih =>
    intro listed a w hfree hr hy hS H
    refine ⟨fun h => (by rw [h] at hr; cases hr), fun j hj => ?_⟩
    by_cases hji : j = i
    · subst hji; exact hy.wpOp hi hS ⟨fun _ => hS, H⟩
    · have h1 := H.2 j (ready_mono hj hji)
      obtain ⟨hjun, oj, hoj, hall⟩ := mem_ready.1 hj
      have hpend : listed.getD i false = false := listed_false (mem_ready.1 hr).1
      have hnot : ∀ e ∈ oj.after, Region.binds md e = true → e.on ≠ i := fun e he hb heq => by
        have h2 := hall e he hb
        rw [heq, hpend] at h2
        cases h2
      have hjz : j ≠ z := by
        rintro rfl
        obtain ⟨oz, hoz, e, he, hb, hon⟩ := Region.waitsFor_spec hz
        have : oz = oj := Option.some.inj (hoz.symm.trans hoj)
        subst this
        exact hnot e he hb hon
      have h2 := wpOp_putIf hoj (hfree j oj hoj hji hjun hnot) (fun cs b => hsel i oi cs b hi) (fun cs b => hsel j oj cs b hoj) hQ hy h1
      have hfree' : ∀ k ok, ops[k]? = some ok → k ≠ i → (listed.setIfInBounds j true).getD k true = false →
          (∀ e ∈ ok.after, Region.binds md e = true → e.on ≠ i) → oi.apart ops ok = true := fun k ok hk hki hun hno => by
        refine hfree k ok hk hki ?_ hno
        by_cases hjk : j = k
        · subst hjk; exact hjun
        · rw [getD_set_ne true hjk] at hun; exact hun
      refine wpOp_mono (fun a' w' h3 => ⟨fun _ => h3.2.1 hjz, ih (listed.setIfInBounds j true) a' w' hfree' (ready_mono hr (Ne.symm hji)) h3.1 (h3.2.1 hjz) ?_⟩) h2
      rw [Array.setIfInBounds_comm _ _ hji]
      exact h3.2.2

/-- Take number i first. -/
theorem T_take {i : Nat} {oi : Oper} {v : Value} {f : Nat} {listed : Array Bool} {a : Act} {w : World} (hi : ops[i]? = some oi)
    (hs : Region.noSelect ops = true) (hf : (Region.free md ops listed i && ((Region.ready md ops listed).contains i && (Region.waitsFor md ops z i && decide (i ≠ z)))) = true)
    (hQ : ∀ c a w, Q (.panic c) (a.put oi.dst v) w → Q (.panic c) a w) (hy : YieldsIf P ops S oi v a) (hS : S w)
    (h : AnyT P md ops Q S z f (listed.setIfInBounds i true) (a.put oi.dst v) w) : AnyT P md ops Q S z (f + 1) listed a w := by
  simp only [Bool.and_eq_true, decide_eq_true_eq] at hf
  obtain ⟨h1, h2, h3, h4⟩ := hf
  exact T_first hi (Region.noSelect_spec hs) hQ h3 h4 f listed a w (Region.free_spec hi h1) (by simpa using h2) hy hS h

/-- Just number i may come up, and it is not z. -/
theorem T_one {i : Nat} {o : Oper} {f : Nat} {listed : Array Bool} {a : Act} {w : World} (hr : Region.ready md ops listed = [i]) (ho : ops[i]? = some o) (hg : o.guard = none)
    (h : ∀ K' : Act → World → Prop, Shut (∀ a' w', S w' → AnyT P md ops Q S z f (listed.setIfInBounds i true) a' w' → K' a' w') → Oper.wp P o a w K' Q) : AnyT P md ops Q S z (f + 1) listed a w := by
  refine ⟨fun h0 => (by rw [hr] at h0; cases h0), fun j hj => ?_⟩
  rw [hr] at hj
  obtain rfl : j = i := by simpa using hj
  refine wpOp_step ho (fun K' hK => ?_)
  have hw : Region.wanted o (yielded ops a.tmps) = true := by simp [Region.wanted, hg]
  rw [if_pos hw]
  exact h K' (fun a' w' hS hW => hK a' w' ⟨fun _ => hS, hW⟩)
/-- Just z may come up, and behind it none. -/
theorem T_last {o : Oper} {f : Nat} {listed : Array Bool} {a : Act} {w : World} (hr : Region.ready md ops listed = [z]) (hd : Region.ready md ops (listed.setIfInBounds z true) = []) (ho : ops[z]? = some o) (hg : o.guard = none)
    (h : ∀ K' : Act → World → Prop, Shut (∀ a' w', Q .normal a' w' → K' a' w') → Oper.wp P o a w K' Q) : AnyT P md ops Q S z (f + 1) listed a w := by
  refine ⟨fun h0 => (by rw [hr] at h0; cases h0), fun j hj => ?_⟩
  rw [hr] at hj
  obtain rfl : j = z := by simpa using hj
  refine wpOp_step ho (fun K' hK => ?_)
  have hw : Region.wanted o (yielded ops a.tmps) = true := by simp [Region.wanted, hg]
  rw [if_pos hw]
  refine h K' (fun a' w' hq => hK a' w' ⟨fun hn => absurd rfl hn, ?_⟩)
  cases f with
  | zero => exact ⟨hd, hq⟩
  | succ f => exact ⟨fun _ => hq, by rw [hd]; simp⟩
/-- The beginning. -/
theorem T_region {id : Nat} {a : Act} {w : World} (z : Nat) (S : World → Prop) (hm : P.follows .mixedOrders = true)
    (h : AnyT P .any ops Q S z ops.size (Array.replicate ops.size false) a w.drew) : (Code.region id ops true).wp P Q a w :=
  wp_region_any hm (any_of_T _ _ _ _ h)
end
end Go.Proofs.YtlbfcahmmjmgjaaDoor
