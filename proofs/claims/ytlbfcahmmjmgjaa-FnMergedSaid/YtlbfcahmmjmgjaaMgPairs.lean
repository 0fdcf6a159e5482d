/- THE WALKS of PairsOk and PairOf: each answers the plain function; memory is as it was (a count of draws apart). -/
import Derived.Test.YtlbfcahmmjmgjaaMgSmall
import Derived.IntWalk
namespace Go.Proofs.Ytlbfcahmmjmgjaa
open Go.RowKit

theorem drop_two (zs : List Int) (i : Nat) (h : i + 1 < zs.length) : zs.drop i = zs.getD i 0 :: zs.getD (i + 1) 0 :: zs.drop (i + 2) := by
  rw [List.drop_eq_getElem_cons (show i < zs.length by omega), List.drop_eq_getElem_cons h]
  simp only [List.getD, List.getElem?_eq_getElem (show i < zs.length by omega), List.getElem?_eq_getElem h, Option.getD_some]

/-- The element ahead of i. -/
def ahead (zs : List Int) (i : Nat) : Option Int := if i = 0 then none else some (zs.getD (i - 1) 0)

/-- A world with some draws more. -/
def Drew (w : World) (w' : World) : Prop := ∃ m, w' = w.drewN m
theorem Drew.refl (w : World) : Drew w w := ⟨0, rfl⟩
theorem Drew.two (w : World) (m n : Nat) : Drew w ((w.drewN m).drewN n) := ⟨m + n, World.drewN_drewN _ _ _⟩
theorem Drew.one (w : World) (m : Nat) : Drew w (w.drewN m) := ⟨m, rfl⟩

set_option maxRecDepth 100000 in
set_option maxHeartbeats 800000 in
theorem pairOf_any (A : Option Addr) (n c : Nat) (zs : List Int) (r : Int) (w : World) (B : Nat) (hn : n ≤ 1000) (hz : Rd .i32 w B A n zs) :
    Calls Try.prog 8 #[.slice A n c, .int .i32 r] w fun e w' => e = .returned (.int .i64 (pof r zs 0)) ∧ w = w' := by
  have HZ := Lib.hid hz
  clear hz
  obtain ⟨T, hT⟩ : ∃ T, T = pof r zs 0 := ⟨_, rfl⟩
  rw [← hT]
  have HT := Lib.hid hT
  clear hT
  go_enter Try.func8, Try.ntmps8
  go_wp2
  go_loop [5] (fun i => ∃ k : Nat, k ≤ n + 1 ∧ i = .int .i64 k ∧ Hid (∃ j : Nat, k = 2 * j ∧ pof r (zs.drop k) j = T)) (fun i => n + 1 - (intOf i).toNat)
  case atStart => exact ⟨0, by omega, rfl, Lib.hid ⟨0, rfl, HT.out.symm⟩⟩
  case round =>
    obtain ⟨k, hk, rfl, HP⟩ := hrel
    clear HT
    by_cases hlt : k + 1 < n
    · obtain ⟨b, off, rfl, hb, hcz⟩ := HZ.out.2 (by omega)
      have hlen := HZ.out.1
      have hd := drop_two zs k (by omega)
      have hck := hcz k (by omega)
      have hck1 := hcz (k + 1) (by omega)
      obtain ⟨x, hx⟩ : ∃ x, x = zs.getD k 0 := ⟨_, rfl⟩
      obtain ⟨y, hy⟩ : ∃ y, y = zs.getD (k + 1) 0 := ⟨_, rfl⟩
      rw [← hx, ← hy] at hd
      rw [← hx] at hck
      rw [← hy] at hck1
      have HD := Lib.hid hd
      clear hcz hx hy hd hlen
      by_cases h1 : x ≤ r
      · by_cases h2 : r ≤ y
        · go_wp2_with fail
          go_ret
          refine ⟨ret_int ?_, rfl⟩
          obtain ⟨j, hj, hp⟩ := HP.out
          rw [HD.out] at hp
          simp only [pof] at hp
          rw [if_pos ⟨h1, h2⟩] at hp
          omega
        · go_wp2_with fail
          go_round
          case rel =>
            refine ⟨k + 2, by omega, by go_num, Lib.hid ?_⟩
            obtain ⟨j, hj, hp⟩ := HP.out
            refine ⟨j + 1, by omega, ?_⟩
            rw [HD.out] at hp
            simp only [pof] at hp
            rw [if_neg (by omega)] at hp
            exact hp
          case measure => simp [intOf]; omega
      · go_wp2_with fail
        go_round
        case rel =>
          refine ⟨k + 2, by omega, by go_num, Lib.hid ?_⟩
          obtain ⟨j, hj, hp⟩ := HP.out
          refine ⟨j + 1, by omega, ?_⟩
          rw [HD.out] at hp
          simp only [pof] at hp
          rw [if_neg (by omega)] at hp
          exact hp
        case measure => simp [intOf]; omega
    · go_wp2_with fail
      go_ret
      refine ⟨ret_int ?_, rfl⟩
      obtain ⟨j, hj, hp⟩ := HP.out
      have hl : (zs.drop k).length ≤ 1 := by rw [List.length_drop, HZ.out.1]; omega
      match hd : zs.drop k, hl with
      | [], _ => rw [hd] at hp; exact hp
      | [x], _ => rw [hd] at hp; exact hp

theorem sorted_two (p : Option Int) (x y : Int) (l : List Int) : sorted p (x :: y :: l) = (decide (x ≤ y) && (match p with | none => true | some q => decide (q < x)) && sorted (some y) l) := rfl

set_option maxRecDepth 100000 in
set_option maxHeartbeats 1600000 in
theorem pairsOk_any (A : Option Addr) (n c : Nat) (zs : List Int) (w : World) (B : Nat) (hn : n ≤ 9223372036854775807) (hz : Rd .i32 w B A n zs) :
    Calls Try.prog 5 #[.slice A n c] w fun e w' => e = .returned (.bool (pairsOk zs)) ∧ Drew w w' := by
  have HZ := Lib.hid hz
  clear hz
  by_cases h1 : n % 2 = 0
  · by_cases h2 : 16 < n
    · have e : pairsOk zs = false := by have := HZ.out.1; simp [pairsOk]; omega
      rw [e]
      go_enter Try.func5, Try.ntmps5
      go_wp2
      go_ret
      exact ⟨rfl, Drew.refl _⟩
    · cases hs : zs.any strangeB with
      | true =>
        have e : pairsOk zs = false := by simp only [pairsOk, hs]; simp
        rw [e]
        have HS := Lib.hid hs
        clear hs
        go_enter Try.func5, Try.ntmps5
        go_wp2_with fail
        refine (contains_any A n c zs w B hn HZ.out).mono ?_
        rintro e w' ⟨rfl, rfl⟩
        rw [HS.out]
        go_wp2_with fail
        go_ret
        exact ⟨rfl, Drew.refl _⟩
      | false =>
        obtain ⟨T, hT⟩ : ∃ T, T = sorted none zs := ⟨_, rfl⟩
        have e : pairsOk zs = T := by
          have hl := HZ.out.1
          simp only [pairsOk, hs, hT]
          simp
          intro _
          omega
        rw [e]
        have HT := Lib.hid hT
        have HS := Lib.hid hs
        clear hs hT e
        have hd16 : decide ((16 : Int) < (n : Int)) = false := decide_eq_false (by omega)
        go_enter Try.func5, Try.ntmps5
        go_wp2_with fail
        refine (contains_any A n c zs w B hn HZ.out).mono ?_
        rintro e w' ⟨rfl, rfl⟩
        rw [HS.out]
        go_wp2_with fail
        go_loopw [3] (fun i wr => ∃ k : Nat, k ≤ n ∧ i = .int .i64 k ∧ Hid (k % 2 = 0) ∧ Hid (sorted (ahead zs k) (zs.drop k) = T) ∧ Drew w wr) (fun i _ => n - (intOf i).toNat)
        case atStart => exact ⟨0, by omega, rfl, Lib.hid rfl, Lib.hid HT.out.symm, Drew.refl _⟩
        case round =>
          obtain ⟨k, hk, rfl, HE, HP, m, rfl⟩ := hrel
          clear HT HS
          by_cases hlt : k < n
          · have hlt1 : k + 1 < n := by have := HE.out; omega
            obtain ⟨b, off, rfl, hb, hcz⟩ := HZ.out.2 (by omega)
            have hlen := HZ.out.1
            have hd := drop_two zs k (by omega)
            have hck := hcz k (by omega)
            have hck1 := hcz (k + 1) (by omega)
            obtain ⟨x, hx⟩ : ∃ x, x = zs.getD k 0 := ⟨_, rfl⟩
            obtain ⟨y, hy⟩ : ∃ y, y = zs.getD (k + 1) 0 := ⟨_, rfl⟩
            have hah : ahead zs (k + 2) = some y := by simp only [ahead]; rw [if_neg (by omega), hy]; rfl
            rw [← hx, ← hy] at hd
            rw [← hx] at hck
            rw [← hy] at hck1
            have hs := HP.out
            rw [hd, sorted_two] at hs
            have i1 : (k : Int) < (n : Int) := by omega
            have i2 : (k : Int) + 1 < (n : Int) := by omega
            have HD := Lib.hid hs
            have HA := Lib.hid hah
            clear hx hy hd hlen hs hah HP
            by_cases c1 : y < x
            · have b1 : decide (y < x) = true := decide_eq_true c1
              have hT : T = false := by
                rw [← HD.out, decide_eq_false (show ¬ x ≤ y by omega)]; rfl
              have HT := Lib.hid hT
              clear hT HD hcz
              go_wp2_with fail
              go_quiet (fail)
              go_wp2_with fail
              go_ret
              exact ⟨ret_bool HT.out.symm, Drew.two _ _ _⟩
            · have b1 : decide (y < x) = false := decide_eq_false c1
              have j1 : IntKind.i64.wrap ((k : Int) + 1) = (k : Int) + 1 := IntWalk.i64_in _ (by omega)
              have j2 : (0 : Int) ≤ (k : Int) + 1 := by omega
              have j3 : ((k : Int) + 1).toNat = k + 1 := by omega
              have hxy : decide (x ≤ y) = true := decide_eq_true (by omega)
              have HXY := Lib.hid hxy
              clear hxy
              by_cases c2 : k = 0
              · have b2 : decide (0 < k) = false := decide_eq_false (by omega)
                have hs : sorted (some y) (zs.drop (k + 2)) = T := by
                  rw [← HD.out, HXY.out, ahead, if_pos c2]; simp
                have HS := Lib.hid hs
                clear hs HD hcz c2
                go_wp2_with fail
                go_quiet (fail)
                clear j1 j2 j3
                go_wp2_with fail
                go_roundw
                case rel => exact ⟨k + 2, by omega, by go_num, Lib.hid (by have := HE.out; omega), Lib.hid (by rw [HA.out]; exact HS.out), Drew.one _ _⟩
                case measure => simp [intOf]; omega
              · have b2 : decide (0 < k) = true := decide_eq_true (by omega)
                have hcq := hcz (k - 1) (by omega)
                obtain ⟨q, hq⟩ : ∃ q, q = zs.getD (k - 1) 0 := ⟨_, rfl⟩
                rw [← hq] at hcq
                have hah2 : ahead zs k = some q := by simp only [ahead]; rw [if_neg c2, hq]
                have i3 : (0 : Int) ≤ (k : Int) - 1 := by omega
                have i4 : (k : Int) - 1 < (n : Int) := by omega
                have i5 : ((k : Int) - 1).toNat = k - 1 := by omega
                have i6 : IntKind.i64.wrap ((k : Int) - 1) = (k : Int) - 1 := IntWalk.i64_in _ (by omega)
                have hd2 := HD.out
                rw [hah2] at hd2
                have HD2 := Lib.hid hd2
                clear hq hah2 hd2 HD hcz
                by_cases c3 : x ≤ q
                · have b3 : decide (x ≤ q) = true := decide_eq_true c3
                  have hT : T = false := by
                    rw [← HD2.out, HXY.out]
                    simp only []
                    rw [decide_eq_false (show ¬ q < x by omega)]; rfl
                  have HT := Lib.hid hT
                  clear hT HD2
                  go_wp2_with fail
                  go_quiet (fail)
                  clear j1 j2 j3 i6
                  go_wp2_with fail
                  go_ret
                  exact ⟨ret_bool HT.out.symm, Drew.two _ _ _⟩
                · have b3 : decide (x ≤ q) = false := decide_eq_false c3
                  have hs : sorted (some y) (zs.drop (k + 2)) = T := by
                    rw [← HD2.out, HXY.out]
                    simp only []
                    rw [decide_eq_true (show q < x by omega)]; rfl
                  have HS := Lib.hid hs
                  clear hs HD2
                  go_wp2_with fail
                  go_quiet (fail)
                  clear j1 j2 j3 i6
                  go_wp2_with fail
                  go_roundw
                  case rel => exact ⟨k + 2, by omega, by go_num, Lib.hid (by have := HE.out; omega), Lib.hid (by rw [HA.out]; exact HS.out), Drew.one _ _⟩
                  case measure => simp [intOf]; omega
          · obtain rfl : k = n := by omega
            have hT : T = true := by
              rw [← HP.out, List.drop_of_length_le (by rw [HZ.out.1]; exact Nat.le_refl _)]; rfl
            have HT := Lib.hid hT
            clear hT HP
            go_wp2_with fail
            go_ret
            exact ⟨ret_bool HT.out.symm, Drew.one _ _⟩
  · have e : pairsOk zs = false := by have := HZ.out.1; simp [pairsOk]; omega
    rw [e]
    have i1 : ¬ (n : Int) % 2 = 0 := by omega
    go_enter Try.func5, Try.ntmps5
    go_wp2
    go_ret
    exact ⟨rfl, Drew.refl _⟩
end Go.Proofs.Ytlbfcahmmjmgjaa
