/- FnProgName holds: of every list of names and every word the law answers true; the names, the word and the listed table read behind the call as they did. Condition: the listed table lies in its variable; the card ties that to the program's text. -/
import Derived.Test.YtlbfcahmmjmgjaaDoorRows
import Derived.Test.YtlbfcahmmjmgjaaDoorTie
import Derived.Test.YtlbfcahmmjmgjaaDoorCards
import Derived.Test.YtlbfcahmmjmgjaaDoorPnLaw
import Derived.ProofKit
import Derived.OpenVars
import Derived.SliceStrings
import Derived.LaidMore
import Derived.Lib.LaidTab
import Derived.Stop.Joined
import Derived.SevenTiedAt
namespace Go.Proofs.YtlbfcahmmjmgjaaDoor
open Go.ChangeShapes Go.WideShapes Go.ChangeAt Go.WideMaps Go.WideElems Go.RowKit
open Go.ChangeMaps (setBlock shut_map_nil open_string shut_string keptBut_setBlock frozen?_setBlock heap_setBlock_same)

theorem Tryd.own : ownKnob Tryd.prog.godebug = none := by kernel_rfl
theorem Tryd.laidOut : laidOutB Tryd.prog = true := by kernel_rfl
theorem gSize : Tryd.prog.globalNamed "loop.example/pub-g03127/pub/regexp.matchSize" = some 2 := by kernel_rfl
theorem tSize : (Tryd.prog.globals[2]?).map (·.type) = some 56 := by kernel_rfl
theorem c56 : Tryd.prog.cellsOf 56 = 5 := by kernel_rfl
theorem c3 : Tryd.prog.cellsOf 3 = 1 := by kernel_rfl
theorem c9 : Tryd.prog.cellsOf 9 = 1 := by kernel_rfl

/-- What the row lists. -/
def laidN : List (String × DataW Unit) := [("loop.example/pub-g03127/pub/regexp.matchSize", Rows.laid_loop_example_pub_g03127_pub_regexp_matchSize)]

theorem doorN_met (os : Os) (args : Array Value) : laidMetH Tryd.prog laidN ((World.doorLaid Tryd.prog 19 os).forCall (fun _ _ => 0) ⟨#[], args, []⟩).memory :=
  laidMetH_of_parts3 (fuel := 8) (laidMet_of_run' 8 (by kernel_rfl) (by kernel_rfl)) (by kernel_rfl) (by kernel_rfl)

/-- What the condition gives the walk. -/
theorem size_of_laid {W : World} (h : laidMetH Tryd.prog laidN W) : W.cell? ⟨2, 0, none⟩ = some (.int .i64 128) := by
  rw [MakeChecks.laidMetH_plain _ _ _ (by kernel_rfl)] at h
  have hT : Lib.TabIs Tryd.prog W "loop.example/pub-g03127/pub/regexp.matchSize" .i64 [128, 512, 2048, 16384, 0] :=
    Lib.tabIs_of_head gSize tSize Tryd.underlying56 Tryd.underlying3 c3 c56 h
  exact hT.cell gSize 0 (by decide)

theorem strings_at {w : World} {a : Addr} {zs : List ByteArray} (h : ∀ i, i < zs.length → w.cell? (a.add i) = some (.string (zs.getD i ByteArray.empty))) (hp : 0 < zs.length) :
    ∃ b off, a = ⟨b, off, none⟩ ∧ ∀ j, j < zs.length → w.cell? ⟨b, off + j, none⟩ = some (.string (zs.getD j ByteArray.empty)) := by
  obtain ⟨b, off, spot⟩ := a
  have hspot : spot = none := by simpa [Addr.add] using World.cell?_spot (h 0 hp)
  subst hspot
  exact ⟨b, off, rfl, fun j hj => by rw [← Go.WideShapes.add_plain]; exact h j hj⟩

/-- A list of strings among the arguments, as the walk wants it. -/
theorem rs_of_open {H : Type} {enc : TypeId × Value → H} {W : World} {v : Value} {d : DataW H} {p : List MemPlace}
    (hv : ∃ a len cap, v = .slice a len cap) (h : DataW.Trod enc Tryd.prog W 0 (fun _ => true) true 25 v d p) :
    ∃ A n c zs, v = .slice A n c ∧ n ≤ 9223372036854775807 ∧ Rs W W.heap.size A n zs := by
  obtain ⟨a, len, cap, rfl⟩ := hv
  obtain ⟨fuel, hf⟩ := h
  rcases open_strings Tryd.underlying25 Tryd.underlying9 c9 hf with ⟨hcs, _⟩ | ⟨a', len', cap', zs, hcs, _, hl, hm, hz, _, hcell, _⟩
  · simp [Value.cells] at hcs
    obtain ⟨rfl, rfl, rfl⟩ := hcs
    exact ⟨none, 0, 0, [], rfl, by omega, Rs.nil⟩
  · simp [Value.cells] at hcs
    obtain ⟨rfl, rfl, rfl⟩ := hcs
    have hz' : zs.length = cap := by simpa using hz
    have hm' : cap ≤ 9223372036854775807 := hm
    refine ⟨some a', len, cap, zs.take len, rfl, by omega, by simp; omega, fun hp => ?_⟩
    obtain ⟨b, off, rfl, hc⟩ := strings_at hcell (by omega)
    refine ⟨b, off, rfl, World.block_lt_of_cell? _ _ (hc 0 (by omega)), fun j hj => ?_⟩
    rw [hc j (by omega)]
    simp [List.getD, hj]

set_option maxRecDepth 100000 in
theorem progName_lifted (os : Os) (started : os.Started) (H : Type) (enc : TypeId × Value → H) :
    ReturnsInHanded {} Tryd.checked os 4 .any (fun w args => (Rows.fnProgNameSpec.pre enc Tryd.prog Tryd.f4 [] false w args ∧ laidMetH Tryd.prog laidN w) ∧ sizedMet enc Tryd.prog Tryd.f4 (OpenSpec.ofChange Rows.fnProgNameSpec) false w args)
      (Rows.fnProgNameSpec.post enc Tryd.prog Tryd.f4 false true false false) := by
  refine returnsInHanded_of_change_and (C := Tryd.checked) (X := fun w _ => laidMetH Tryd.prog laidN w) (fun _ _ _ hh h => h.of_heap hh) Tryd.own started (by kernel_rfl) Tryd.func4
    (ChangeSpec.witness_shaped (enc := enc) (C := Tryd.checked) (os := os) (X := fun w _ => laidMetH Tryd.prog laidN w) false (World.doorLaid Tryd.prog 19 os) #[.slice none 0 0, .string ⟨#[]⟩] 8 rfl (World.shaped_of_RefB (by kernel_rfl) (by kernel_rfl)) (by kernel_rfl) (by kernel_rfl) (by kernel_rfl) (doorN_met os _)) ?_
  intro W base args ds gs before hval0 hW _ _ hL _
  have hval : ∀ (j : Nat) t v, Tryd.f4.params[j]? = some t → args[j]? = some v → Value.okWide Tryd.prog W .any base t v := hval0
  have hW' := hW
  obtain ⟨p, q, hA0, hV0, rfl, hfz, hnd⟩ := hW
  have hA : DataW.TrodAll enc Tryd.prog W 0 (fun _ => true) true Tryd.f4.params.toList args.toList ds p := hA0
  have hV : DataW.TrodVars enc Tryd.prog W (fun _ => true) ["loop.example/pub-g03127/pub/regexp.matchSize"] gs q := hV0
  rw [Tryd.params4] at hA hval
  obtain ⟨v0, v1, d0, d1, p0, p1, rfl, rfl, rfl, h0, h1⟩ := trodAll_two hA
  obtain ⟨g, t, cs, fuel, d, p', rfl, hg, ht, hvar, hd, rfl⟩ := trodVars_one hV
  have k0 := h0
  obtain ⟨A0, n0, c0, L, rfl, hn0, hR⟩ := rs_of_open (okWide_slice Tryd.underlying25 (hval 0 25 v0 rfl rfl)) h0
  obtain ⟨s, rfl, rfl, rfl, hs⟩ := open_string Tryd.underlying9 (hval 1 9 v1 rfl rfl) h1
  have hG := size_of_laid hL
  have hlt0 : ∀ x ∈ p0, x.block < W.heap.size := fun x hx => by simpa using hW'.lt x (by simp [hx])
  clear hA0 hV0 hval0
  refine (law_name A0 n0 c0 L s W hn0 hR hG).mono fun e W' ⟨he, hbel⟩ => ?_
  subst he
  exact ⟨_, rfl, _, _, _, [], p0 ++ [], _, hW', trodAll_mk1 (shut_bool Tryd.underlying4 _),
    trodAll_mk2 (Below.trod Tryd.laidOut (by kernel_rfl) (of_decide_eq_true (by kernel_rfl)) k0 hbel hlt0) (shut_string Tryd.underlying9 hs),
    Below.trodVars Tryd.laidOut hbel (by kernel_rfl) hV, hbel.frame _, fun h => by cases h⟩

theorem progName_row : Rows.FnProgNameSaid :=
  OpenClaim.holds_of_wide 4 Tryd.f4 rfl rfl rfl rfl rfl rfl rfl ⟨rfl, rfl, rfl, rfl, rfl⟩ rfl rfl rfl rfl rfl (by kernel_rfl) Tryd.func4 (by kernel_rfl)
    (of_decide_eq_true (by kernel_rfl)) (by unfold Func.isWrapper; first | (rw [if_pos (by decide +kernel)]; kernel_rfl) | (rw [if_neg (by decide +kernel)]; exact ⟨rfl, rfl⟩))
    (fun os started H enc _ => progName_lifted os started H enc)

theorem progName_holds : Rows.FnProgNameCardSaid :=
  Claim7.holds_tied_plain_at .later [] [.data] true (true, "a11b3d49075facf1b8da90819756de3acebcc4200d522aa0242a53ec7f6fdbe3") false
    progName_row (fun _ h => by cases h) (by kernel_rfl) (fun _ h => by cases h) fnProgName_row_tie rfl ⟨rfl, rfl⟩ (by kernel_rfl) rfl
    (fun f fn hf hfn => by
      obtain rfl : f = 4 := Option.some.inj ((show Tryd.prog.funcNamed "loop.example/pub-g03127/laws.FnProgName" = some 4 by kernel_rfl).symm.trans hf) |>.symm
      obtain rfl : fn = Tryd.f4 := (Option.some.inj (Tryd.func4.symm.trans hfn)).symm
      exact ⟨by kernel_rfl, fun j t ht => by
        rw [Tryd.params4] at ht
        have hm : t ∈ [25, 9] := by simpa using Array.mem_of_getElem? ht
        have hall : ([25, 9].all fun u => !Tryd.prog.wantsStandIn u) = true := by kernel_rfl
        exact (show Tryd.prog.wantsStandIn t = false by simpa using List.all_eq_true.1 hall t hm)⟩)
    (by kernel_rfl)
#print axioms progName_holds
end Go.Proofs.YtlbfcahmmjmgjaaDoor
