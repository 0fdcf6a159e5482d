/- THE WALK of the law FnMerged: true of every two lists, numbers and rune; of what was there nothing has turned. -/
import Derived.Test.YtlbfcahmmjmgjaaMgImpl
import Derived.Test.YtlbfcahmmjmgjaaMgMeet
namespace Go.Proofs.Ytlbfcahmmjmgjaa
open Go.RowKit

/-- MergeGives at lists that are written out. -/
def Gives2 (out nx : List Int) (w : World) (e : Ending) (w' : World) : Prop :=
  Below w.heap.size w w' ∧ ∃ A c A' c', e = .returned (.tuple #[.slice A out.length c, .slice A' nx.length c']) ∧ Rd .i32 w' w'.heap.size A out.length out ∧ Rd .u32 w' w'.heap.size A' nx.length nx
theorem gives2_none (w : World) : MergeGives none w = Gives2 [] [4294967295] w := rfl
theorem gives2_some (out nx : List Int) (w : World) : MergeGives (some (out, nx)) w = Gives2 out nx w := rfl

/-- The law answers true; below the heap's old size nothing has turned. -/
def LawTrue (w : World) (e : Ending) (w' : World) : Prop := e = .returned (.bool true) ∧ Below w.heap.size w w'

theorem Rd.drew' {k : IntKind} {w w' : World} {B n : Nat} {A : Option Addr} {zs : List Int} (h : Rd k w B A n zs) (hd : Drew w w') : Rd k w' B A n zs := by
  obtain ⟨m, rfl⟩ := hd
  exact h

set_option maxRecDepth 100000 in
set_option maxHeartbeats 1600000 in
theorem law_merged (A1 A2 : Option Addr) (n m c c' : Nat) (L R : List Int) (a b r : Int) (w : World) (hn : n ≤ 9223372036854775807) (hm : m ≤ 9223372036854775807)
    (h1 : Rd .i32 w w.heap.size A1 n L) (h2 : Rd .i32 w w.heap.size A2 m R) :
    Calls Try.prog 3 #[.slice A1 n c, .slice A2 m c', .int .u32 a, .int .u32 b, .int .i32 r] w (LawTrue w) := by
  have H1 := Lib.hid h1
  have H2 := Lib.hid h2
  clear h1 h2
  by_cases s1 : 2147483647 < n
  · go_enter Try.func3, Try.ntmps3
    go_wp2
    go_ret
    exact ⟨rfl, Below.refl _ _⟩
  by_cases s2 : 2147483647 < m
  · go_enter Try.func3, Try.ntmps3
    go_wp2
    go_ret
    exact ⟨rfl, Below.refl _ _⟩
  cases p1 : pairsOk L with
  | false =>
    have P1 := Lib.hid p1
    clear p1
    go_enter Try.func3, Try.ntmps3
    go_wp2_with fail
    refine (pairsOk_any A1 n c L w _ hn H1.out).mono ?_
    rw [P1.out]
    rintro e w' ⟨rfl, k, rfl⟩
    go_wp2_with fail
    go_ret
    exact ⟨rfl, below_drewN (Below.refl _ _) _⟩
  | true =>
    have P1 := Lib.hid p1
    clear p1
    cases p2 : pairsOk R with
    | false =>
      have P2 := Lib.hid p2
      clear p2
      go_enter Try.func3, Try.ntmps3
      go_wp2_with fail
      refine (pairsOk_any A1 n c L w _ hn H1.out).mono ?_
      rw [P1.out]
      rintro e w' ⟨rfl, k, rfl⟩
      go_wp2_with fail
      refine (pairsOk_any A2 m c' R _ _ hm (H2.out.drewN k)).mono ?_
      rw [P2.out]
      rintro e w' ⟨rfl, k2, rfl⟩
      go_wp2_with fail
      go_ret
      exact ⟨rfl, below_drewN (Below.refl _ _) _⟩
    | true =>
      have P2 := Lib.hid p2
      clear p2
      have en : n % 2 = 0 ∧ n ≤ 16 := by
        have h := P1.out
        simp only [pairsOk, Bool.and_eq_true, decide_eq_true_eq] at h
        have := H1.out.1; omega
      have em : m % 2 = 0 ∧ m ≤ 16 := by
        have h := P2.out
        simp only [pairsOk, Bool.and_eq_true, decide_eq_true_eq] at h
        have := H2.out.1; omega
      obtain ⟨en1, en2⟩ := en
      obtain ⟨em1, em2⟩ := em
      by_cases g1 : a = b
      · have q1 : (a == b) = true := by simpa using g1
        clear g1
        go_enter Try.func3, Try.ntmps3
        go_wp2_with fail
        refine (pairsOk_any A1 n c L w _ hn H1.out).mono ?_
        rw [P1.out]
        rintro e w' ⟨rfl, k, rfl⟩
        go_wp2_with fail
        refine (pairsOk_any A2 m c' R _ _ hm (H2.out.drewN k)).mono ?_
        rw [P2.out]
        rintro e w' ⟨rfl, k2, rfl⟩
        go_wp2_with fail
        go_ret
        exact ⟨rfl, below_drewN (Below.refl _ _) _⟩
      · have q1 : (a == b) = false := by simpa using g1
        by_cases g2 : 1000 < a
        · clear g1
          go_enter Try.func3, Try.ntmps3
          go_wp2_with fail
          refine (pairsOk_any A1 n c L w _ hn H1.out).mono ?_
          rw [P1.out]
          rintro e w' ⟨rfl, k, rfl⟩
          go_wp2_with fail
          refine (pairsOk_any A2 m c' R _ _ hm (H2.out.drewN k)).mono ?_
          rw [P2.out]
          rintro e w' ⟨rfl, k2, rfl⟩
          go_wp2_with fail
          go_ret
          exact ⟨rfl, below_drewN (Below.refl _ _) _⟩
        · by_cases g3 : 1000 < b
          · clear g1
            go_enter Try.func3, Try.ntmps3
            go_wp2_with fail
            refine (pairsOk_any A1 n c L w _ hn H1.out).mono ?_
            rw [P1.out]
            rintro e w' ⟨rfl, k, rfl⟩
            go_wp2_with fail
            refine (pairsOk_any A2 m c' R _ _ hm (H2.out.drewN k)).mono ?_
            rw [P2.out]
            rintro e w' ⟨rfl, k2, rfl⟩
            go_wp2_with fail
            go_ret
            exact ⟨rfl, below_drewN (Below.refl _ _) _⟩
          · obtain ⟨T, hT⟩ : ∃ T, T = mg a b (n + m) L R [] [] := ⟨_, rfl⟩
            have hmerged := fun w' h1 h2 => merged_any A1 A2 n m c c' L R a b w' (by omega) (by omega) en1 em1 h1 h2
            rw [← hT] at hmerged
            have HT := Lib.hid hT
            clear hT g1
            have z1 : decide ((2147483647 : Int) < (n : Int)) = false := decide_eq_false (by omega)
            have z2 : decide ((2147483647 : Int) < (m : Int)) = false := decide_eq_false (by omega)
            have z3 : decide ((1000 : Int) < a) = false := decide_eq_false (by omega)
            have z4 : decide ((1000 : Int) < b) = false := decide_eq_false (by omega)
            cases T with
            | none =>
              have hmt : meet L R = true := merge_none L R a b P1.out P2.out (by rw [H1.out.1, H2.out.1]; exact HT.out.symm)
              have HMt := Lib.hid hmt
              have HMg := Lib.hid hmerged
              clear hmerged hmt
              go_enter Try.func3, Try.ntmps3
              go_wp2_with fail
              refine (pairsOk_any A1 n c L w _ hn H1.out).mono ?_
              rw [P1.out]
              rintro e w' ⟨rfl, k, rfl⟩
              go_wp2_with fail
              refine (pairsOk_any A2 m c' R _ _ hm (H2.out.drewN k)).mono ?_
              rw [P2.out]
              rintro e w' ⟨rfl, k2, rfl⟩
              go_wp2_with fail
              refine (HMg.out _ (H1.out.drewN _) (H2.out.drewN _)).mono ?_
              rintro e w3 ⟨b3, B3, d3, B4, d4, rfl, r3, r4⟩
              have R3 := Lib.hid r3
              have R4 := Lib.hid r4
              have Q3 : Hid (Below w.heap.size w w3) := Lib.hid ((below_drewN (Below.refl _ _) _).trans b3)
              clear r3 r4 b3
              go_wp2_with fail
              refine (meet_any A1 A2 n m c c' L R w3 _ (by omega) (by omega) (H1.out.below Q3.out) (H2.out.below Q3.out)).mono ?_
              rw [HMt.out]
              rintro e w' ⟨rfl, k3, rfl⟩
              obtain ⟨b4, o4, e4, _, hc4⟩ := R4.out.2 (by decide)
              have e5 : B4 = some ⟨b4, o4, none⟩ := e4
              subst e5
              have hc5 : w3.cell? ⟨b4, o4, none⟩ = some (.int .u32 4294967295) := hc4 0 (by decide)
              clear hc4 e4
              change Hid (Rd IntKind.u32 w3 w3.heap.size _ 1 [4294967295]) at R4
              go_wp2_with fail
              go_ret
              exact ⟨rfl, below_drewN Q3.out _⟩
            | some T =>
              obtain ⟨out, nx⟩ := T
              have ML := merge_some L R a b r P1.out P2.out out nx (by rw [H1.out.1, H2.out.1]; exact HT.out.symm)
              have hmt := ML.apart
              have y1 := ML.len
              have y2 := ML.sum
              rw [H1.out.1, H2.out.1] at y2
              have y3 : out.length ≤ 32 := by omega
              have y4 : nx.length ≤ 16 := by omega
              have y5 : ((out.length : Int) != 2 * (nx.length : Int)) = false := by simp; omega
              have y6 : ((out.length : Int) != (n : Int) + (m : Int)) = false := by simp; omega
              have HL := Lib.hid ML
              have HMt := Lib.hid hmt
              have hmg2 : ∀ w', Rd .i32 w' w'.heap.size A1 n L → Rd .i32 w' w'.heap.size A2 m R → Calls Try.prog 6 #[.slice A1 n c, .slice A2 m c', .int .u32 a, .int .u32 b] w' (Gives2 out nx w') := hmerged
              have HMg := Lib.hid hmg2
              clear hmerged hmg2 hmt y1 y2 ML
              go_enter Try.func3, Try.ntmps3
              go_wp2_with fail
              refine (pairsOk_any A1 n c L w _ hn H1.out).mono ?_
              rw [P1.out]
              rintro e w' ⟨rfl, k, rfl⟩
              go_wp2_with fail
              refine (pairsOk_any A2 m c' R _ _ hm (H2.out.drewN k)).mono ?_
              rw [P2.out]
              rintro e w' ⟨rfl, k2, rfl⟩
              go_wp2_with fail
              refine (HMg.out _ (H1.out.drewN _) (H2.out.drewN _)).mono ?_
              rintro e w3 ⟨b3, B3, d3, B4, d4, rfl, r3, r4⟩
              have R3 := Lib.hid r3
              have R4 := Lib.hid r4
              have Q3 : Hid (Below w.heap.size w w3) := Lib.hid ((below_drewN (Below.refl _ _) _).trans b3)
              clear r3 r4 b3
              go_wp2_with fail
              refine (meet_any A1 A2 n m c c' L R w3 _ (by omega) (by omega) (H1.out.below Q3.out) (H2.out.below Q3.out)).mono ?_
              rw [HMt.out]
              rintro e w' ⟨rfl, k3, rfl⟩
              go_wp2_with fail
              clear y5 y6
              go_loopw [13] (fun i wr => ∃ j : Nat, 2 ≤ j ∧ j ≤ out.length + 2 ∧ i = .int .i64 j ∧ Hid (j % 2 = 0) ∧ Drew w3 wr) (fun i _ => out.length + 2 - (intOf i).toNat)
              case atStart => exact ⟨2, by omega, by omega, rfl, Lib.hid rfl, Drew.one _ _⟩
              case round =>
                obtain ⟨j, hj2, hj, rfl, HE, k4, rfl⟩ := hrel
                by_cases hlt : j < out.length
                · obtain ⟨b5, o5, rfl, _, hc5⟩ := R3.out.2 (by omega)
                  have f1 := hc5 j hlt
                  have f2 := hc5 (j - 1) (by omega)
                  have hup := HL.out.up (j / 2) (by omega) (by have := HE.out; omega)
                  rw [show 2 * (j / 2) = j by have := HE.out; omega] at hup
                  obtain ⟨x, hx⟩ : ∃ x, x = out.getD j 0 := ⟨_, rfl⟩
                  obtain ⟨y, hy⟩ : ∃ y, y = out.getD (j - 1) 0 := ⟨_, rfl⟩
                  rw [← hx] at f1 hup
                  rw [← hy] at f2 hup
                  have i1 : (j : Int) < (out.length : Int) := by omega
                  have i2 : (0 : Int) ≤ (j : Int) - 1 := by omega
                  have i3 : (j : Int) - 1 < (out.length : Int) := by omega
                  have j1 : IntKind.i64.wrap ((j : Int) - 1) = (j : Int) - 1 := IntWalk.i64_in _ (by omega)
                  have j2 : ((j : Int) - 1).toNat = j - 1 := by omega
                  have k9 : decide (x ≤ y) = false := decide_eq_false (by omega)
                  clear hx hy hc5 hup
                  go_wp2_with fail
                  go_quiet (fail)
                  clear i1 i2 i3 j1 j2 k9 f1 f2
                  go_wp2_with fail
                  go_roundw
                  case rel => exact ⟨j + 2, by omega, by omega, by go_num, Lib.hid (by have := HE.out; omega), Drew.one _ _⟩
                  case measure => simp [intOf]; omega
                · obtain ⟨KL, hKL⟩ : ∃ KL, KL = pof r L 0 := ⟨_, rfl⟩
                  obtain ⟨KR, hKR⟩ : ∃ KR, KR = pof r R 0 := ⟨_, rfl⟩
                  have hl := HL.out.left
                  have hr := HL.out.right
                  have hno := HL.out.neither
                  rw [← hKL] at hl hr hno
                  rw [← hKR] at hr hno
                  have HKL := Lib.hid hKL
                  have HKR := Lib.hid hKR
                  clear hKL hKR
                  by_cases cl : 0 ≤ KL
                  · obtain ⟨kn, hk1, hk2, hk3⟩ := hl cl
                    have HK1 := Lib.hid hk1
                    obtain ⟨b6, o6, rfl, _, hc6⟩ := R4.out.2 (by omega)
                    have f1 := hc6 kn hk2
                    rw [hk3] at f1
                    have i1 : (kn : Int) < (nx.length : Int) := by omega
                    clear hl hr hno hc6 hk1 hk3
                    go_wp2_with fail
                    refine (pairOf_any B3 out.length d3 out r _ _ (by omega) (R3.out.drewN k4)).mono ?_
                    rw [HK1.out]
                    rintro e w' ⟨rfl, rfl⟩
                    go_wp2_with fail
                    refine (pairOf_any A1 n c L r _ _ (by omega) ((H1.out.below Q3.out).drewN k4)).mono ?_
                    rw [← HKL.out]
                    rintro e w' ⟨rfl, rfl⟩
                    go_wp2_with fail
                    go_ret
                    exact ⟨rfl, below_drewN Q3.out _⟩
                  · by_cases cr : 0 ≤ KR
                    · obtain ⟨kn, hk1, hk2, hk3⟩ := hr (by omega) cr
                      have HK1 := Lib.hid hk1
                      obtain ⟨b6, o6, rfl, _, hc6⟩ := R4.out.2 (by omega)
                      have f1 := hc6 kn hk2
                      rw [hk3] at f1
                      have i1 : (kn : Int) < (nx.length : Int) := by omega
                      clear hl hr hno hc6 hk1 hk3
                      go_wp2_with fail
                      refine (pairOf_any B3 out.length d3 out r _ _ (by omega) (R3.out.drewN k4)).mono ?_
                      rw [HK1.out]
                      rintro e w' ⟨rfl, rfl⟩
                      go_wp2_with fail
                      refine (pairOf_any A1 n c L r _ _ (by omega) ((H1.out.below Q3.out).drewN k4)).mono ?_
                      rw [← HKL.out]
                      rintro e w' ⟨rfl, rfl⟩
                      go_wp2_with fail
                      refine (pairOf_any A2 m c' R r _ _ (by omega) ((H2.out.below Q3.out).drewN k4)).mono ?_
                      rw [← HKR.out]
                      rintro e w' ⟨rfl, rfl⟩
                      go_wp2_with fail
                      go_ret
                      exact ⟨rfl, below_drewN Q3.out _⟩
                    · obtain ⟨K, hK⟩ : ∃ K, K = pof r out 0 := ⟨_, rfl⟩
                      have hneg := hno (by omega) (by omega)
                      rw [← hK] at hneg
                      have HK := Lib.hid hK
                      clear hl hr hno hK
                      go_wp2_with fail
                      refine (pairOf_any B3 out.length d3 out r _ _ (by omega) (R3.out.drewN k4)).mono ?_
                      rw [← HK.out]
                      rintro e w' ⟨rfl, rfl⟩
                      go_wp2_with fail
                      refine (pairOf_any A1 n c L r _ _ (by omega) ((H1.out.below Q3.out).drewN k4)).mono ?_
                      rw [← HKL.out]
                      rintro e w' ⟨rfl, rfl⟩
                      go_wp2_with fail
                      refine (pairOf_any A2 m c' R r _ _ (by omega) ((H2.out.below Q3.out).drewN k4)).mono ?_
                      rw [← HKR.out]
                      rintro e w' ⟨rfl, rfl⟩
                      go_wp2_with fail
                      go_ret
                      exact ⟨ret_bool (by simp), below_drewN Q3.out _⟩
end Go.Proofs.Ytlbfcahmmjmgjaa
