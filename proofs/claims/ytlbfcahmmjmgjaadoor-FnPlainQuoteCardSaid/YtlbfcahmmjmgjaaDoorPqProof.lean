/- FnPlainQuote holds: of every word the law answers true; the word and the listed table read behind the call as they did. Condition: the listed table lies in its variable; the card ties that to the program's text. -/
import Derived.Test.YtlbfcahmmjmgjaaDoorRows
import Derived.Test.YtlbfcahmmjmgjaaDoorTie
import Derived.Test.YtlbfcahmmjmgjaaDoorCards
import Derived.Test.YtlbfcahmmjmgjaaDoorPqLaw
import Derived.ProofKit
import Derived.OpenVars
import Derived.LaidMore
import Derived.Lib.LaidTab
import Derived.Stop.Joined
import Derived.SevenTiedAt
namespace Go.Proofs.YtlbfcahmmjmgjaaDoor
open Go.ChangeShapes Go.WideShapes Go.ChangeAt Go.WideMaps Go.WideElems Go.RowKit
open Go.ChangeMaps (setBlock shut_map_nil open_string shut_string keptBut_setBlock frozen?_setBlock heap_setBlock_same)

theorem Tryd.own : ownKnob Tryd.prog.godebug = none := by kernel_rfl
theorem Tryd.laidOut : laidOutB Tryd.prog = true := by kernel_rfl
theorem gSpecial : Tryd.prog.globalNamed "loop.example/pub-g03127/pub/regexp.specialBytes" = some 1 := by kernel_rfl
theorem tSpecial : (Tryd.prog.globals[1]?).map (·.type) = some 50 := by kernel_rfl
theorem c50 : Tryd.prog.cellsOf 50 = 16 := by kernel_rfl
theorem c5 : Tryd.prog.cellsOf 5 = 1 := by kernel_rfl

/-- What the row lists. -/
def laidQ : List (String × DataW Unit) := [("loop.example/pub-g03127/pub/regexp.specialBytes", Rows.laid_loop_example_pub_g03127_pub_regexp_specialBytes)]

theorem doorQ_met (os : Os) (args : Array Value) : laidMetH Tryd.prog laidQ ((World.doorLaid Tryd.prog 19 os).forCall (fun _ _ => 0) ⟨#[], args, []⟩).memory :=
  laidMetH_of_parts3 (fuel := 8) (laidMet_of_run' 8 (by kernel_rfl) (by kernel_rfl)) (by kernel_rfl) (by kernel_rfl)

/-- What the condition gives the walks. -/
theorem tab_of_laid {W : World} (h : laidMetH Tryd.prog laidQ W) : TabAt W ∧ 1 < W.heap.size := by
  rw [MakeChecks.laidMetH_plain _ _ _ (by kernel_rfl)] at h
  have hT : Lib.TabIs Tryd.prog W "loop.example/pub-g03127/pub/regexp.specialBytes" .u8 tab :=
    Lib.tabIs_of_head gSpecial tSpecial Tryd.underlying50 Tryd.underlying5 c5 c50 h
  have hc : TabAt W := fun i hi => hT.cell gSpecial i hi
  exact ⟨hc, World.block_lt_of_cell? _ _ (hc 0 (by omega))⟩

set_option maxRecDepth 100000 in
theorem plainQuote_lifted (os : Os) (started : os.Started) (H : Type) (enc : TypeId × Value → H) :
    ReturnsInHanded {} Tryd.checked os 3 .any (fun w args => (Rows.fnPlainQuoteSpec.pre enc Tryd.prog Tryd.f3 [] false w args ∧ laidMetH Tryd.prog laidQ w) ∧ sizedMet enc Tryd.prog Tryd.f3 (OpenSpec.ofChange Rows.fnPlainQuoteSpec) false w args)
      (Rows.fnPlainQuoteSpec.post enc Tryd.prog Tryd.f3 false true false false) := by
  refine returnsInHanded_of_change_and (C := Tryd.checked) (X := fun w _ => laidMetH Tryd.prog laidQ w) (fun _ _ _ hh h => h.of_heap hh) Tryd.own started (by kernel_rfl) Tryd.func3
    (ChangeSpec.witness_shaped (enc := enc) (C := Tryd.checked) (os := os) (X := fun w _ => laidMetH Tryd.prog laidQ w) false (World.doorLaid Tryd.prog 19 os) #[.string ⟨#[]⟩] 8 rfl (World.shaped_of_RefB (by kernel_rfl) (by kernel_rfl)) (by kernel_rfl) (by kernel_rfl) (by kernel_rfl) (doorQ_met os _)) ?_
  intro W base args ds gs before hval0 hW _ _ hL _
  have hval : ∀ (j : Nat) t v, Tryd.f3.params[j]? = some t → args[j]? = some v → Value.okWide Tryd.prog W .any base t v := hval0
  have hW' := hW
  obtain ⟨p, q, hA0, hV0, rfl, hfz, hnd⟩ := hW
  have hA : DataW.TrodAll enc Tryd.prog W 0 (fun _ => true) true Tryd.f3.params.toList args.toList ds p := hA0
  have hV : DataW.TrodVars enc Tryd.prog W (fun _ => true) ["loop.example/pub-g03127/pub/regexp.specialBytes"] gs q := hV0
  rw [Tryd.params3] at hA hval
  obtain ⟨v0, d0, rfl, rfl, h0⟩ := trodAll_one hA
  obtain ⟨g, t, cs, fuel, d, p', rfl, hg, ht, hvar, hd, rfl⟩ := trodVars_one hV
  obtain ⟨s, rfl, rfl, rfl, hs⟩ := open_string Tryd.underlying9 (hval 0 9 v0 rfl rfl) h0
  obtain ⟨hT, hb⟩ := tab_of_laid hL
  clear hA0 hV0 hval0
  refine (law_any s W hs hT hb).mono fun e W' ⟨he, hbel⟩ => ?_
  subst he
  exact ⟨_, rfl, _, _, _, [], [], _, hW', trodAll_mk1 (shut_bool Tryd.underlying4 _), trodAll_mk1 (shut_string Tryd.underlying9 hs), Below.trodVars Tryd.laidOut hbel (by kernel_rfl) hV, hbel.frame _, fun h => by cases h⟩

theorem plainQuote_row : Rows.FnPlainQuoteSaid :=
  OpenClaim.holds_of_wide 3 Tryd.f3 rfl rfl rfl rfl rfl rfl rfl ⟨rfl, rfl, rfl, rfl, rfl⟩ rfl rfl rfl rfl rfl (by kernel_rfl) Tryd.func3 (by kernel_rfl)
    (of_decide_eq_true (by kernel_rfl)) (by unfold Func.isWrapper; first | (rw [if_pos (by decide +kernel)]; kernel_rfl) | (rw [if_neg (by decide +kernel)]; exact ⟨rfl, rfl⟩))
    (fun os started H enc _ => plainQuote_lifted os started H enc)

theorem plainQuote_holds : Rows.FnPlainQuoteCardSaid :=
  Claim7.holds_tied_plain_at .later [] [.data] true (true, "a11b3d49075facf1b8da90819756de3acebcc4200d522aa0242a53ec7f6fdbe3") false
    plainQuote_row (fun _ h => by cases h) (by kernel_rfl) (fun _ h => by cases h) fnPlainQuote_row_tie rfl ⟨rfl, rfl⟩ (by kernel_rfl) rfl
    (fun f fn hf hfn => by
      obtain rfl : f = 3 := Option.some.inj ((show Tryd.prog.funcNamed "loop.example/pub-g03127/laws.FnPlainQuote" = some 3 by kernel_rfl).symm.trans hf) |>.symm
      obtain rfl : fn = Tryd.f3 := (Option.some.inj (Tryd.func3.symm.trans hfn)).symm
      exact ⟨by kernel_rfl, fun j t ht => by
        rw [Tryd.params3] at ht
        have hm : t ∈ [9] := by simpa using Array.mem_of_getElem? ht
        have hall : ([9].all fun u => !Tryd.prog.wantsStandIn u) = true := by kernel_rfl
        exact (show Tryd.prog.wantsStandIn t = false by simpa using List.all_eq_true.1 hall t hm)⟩)
    (by kernel_rfl)
#print axioms plainQuote_holds
end Go.Proofs.YtlbfcahmmjmgjaaDoor
