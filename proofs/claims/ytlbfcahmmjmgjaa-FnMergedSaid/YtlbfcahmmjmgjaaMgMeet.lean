/- THE WALK of Meet: it answers the plain function; memory is as it was (a count of draws apart). -/
import Derived.Test.YtlbfcahmmjmgjaaMgPairs
namespace Go.Proofs.Ytlbfcahmmjmgjaa
open Go.RowKit

theorem meet_two (x y : Int) (l B : List Int) : meet (x :: y :: l) B = (meet1 x y B || meet l B) := rfl
theorem meet1_two (x y u v : Int) (l : List Int) : meet1 x y (u :: v :: l) = ((decide (x ≤ v) && decide (u ≤ y)) || meet1 x y l) := rfl
theorem meet_short (B : List Int) : ∀ (l : List Int), l.length ≤ 1 → meet l B = false
  | [], _ => rfl
  | [_], _ => rfl
  | _ :: _ :: _, h => by simp at h
theorem meet1_short (x y : Int) : ∀ (l : List Int), l.length ≤ 1 → meet1 x y l = false
  | [], _ => rfl
  | [_], _ => rfl
  | _ :: _ :: _, h => by simp at h

set_option maxRecDepth 100000 in
set_option maxHeartbeats 1600000 in
theorem meet_any (A1 A2 : Option Addr) (n n' c c' : Nat) (xs ys : List Int) (w : World) (B : Nat) (hn : n ≤ 1000) (hn' : n' ≤ 1000) (hx : Rd .i32 w B A1 n xs) (hy : Rd .i32 w B A2 n' ys) :
    Calls Try.prog 7 #[.slice A1 n c, .slice A2 n' c'] w fun e w' => e = .returned (.bool (meet xs ys)) ∧ Drew w w' := by
  have HX := Lib.hid hx
  have HY := Lib.hid hy
  clear hx hy
  obtain ⟨T, hT⟩ : ∃ T, T = meet xs ys := ⟨_, rfl⟩
  rw [← hT]
  have HT := Lib.hid hT
  clear hT
  go_enter Try.func7, Try.ntmps7
  go_wp2
  go_loopw [5] (fun i wr => ∃ k : Nat, k ≤ n + 1 ∧ i = .int .i64 k ∧ Hid (meet (xs.drop k) ys = T) ∧ Drew w wr) (fun i _ => n + 1 - (intOf i).toNat)
  case atStart => exact ⟨0, by omega, rfl, Lib.hid HT.out.symm, Drew.refl _⟩
  case round =>
    obtain ⟨k, hk, rfl, HP, m, rfl⟩ := hrel
    clear HT
    by_cases hlt : k + 1 < n
    · obtain ⟨b, off, rfl, hb, hcz⟩ := HX.out.2 (by omega)
      have hlen := HX.out.1
      have hd := drop_two xs k (by omega)
      have hck := hcz k (by omega)
      have hck1 := hcz (k + 1) (by omega)
      obtain ⟨x, hx⟩ : ∃ x, x = xs.getD k 0 := ⟨_, rfl⟩
      obtain ⟨y, hy⟩ : ∃ y, y = xs.getD (k + 1) 0 := ⟨_, rfl⟩
      rw [← hx, ← hy] at hd
      rw [← hx] at hck
      rw [← hy] at hck1
      have hs := HP.out
      rw [hd, meet_two] at hs
      have HD := Lib.hid hs
      clear hx hy hd hlen hs hcz HP
      have bd : decide ((k : Int) + 1 < (n : Int)) = true := decide_eq_true (by omega)
      go_wp2_with fail
      clear bd
      go_loopw [6] (fun i wr => ∃ j : Nat, j ≤ n' + 1 ∧ i = .int .i64 j ∧ Hid ((meet1 x y (ys.drop j) || meet (xs.drop (k + 2)) ys) = T) ∧ Drew w wr) (fun i _ => n' + 1 - (intOf i).toNat)
      case atStart => exact ⟨0, by omega, rfl, HD, Drew.one _ _⟩
      case round =>
        obtain ⟨j, hj, rfl, HP, m2, rfl⟩ := hrel
        clear HD
        by_cases hlt2 : j + 1 < n'
        · obtain ⟨b2, off2, rfl, hb2, hcz2⟩ := HY.out.2 (by omega)
          have hlen2 := HY.out.1
          have hd2 := drop_two ys j (by omega)
          have hcj := hcz2 j (by omega)
          have hcj1 := hcz2 (j + 1) (by omega)
          obtain ⟨u, hu⟩ : ∃ u, u = ys.getD j 0 := ⟨_, rfl⟩
          obtain ⟨v, hv⟩ : ∃ v, v = ys.getD (j + 1) 0 := ⟨_, rfl⟩
          rw [← hu, ← hv] at hd2
          rw [← hu] at hcj
          rw [← hv] at hcj1
          have hs := HP.out
          rw [hd2, meet1_two] at hs
          have HD := Lib.hid hs
          have i1 : (k : Int) < (n : Int) := by omega
          have i2 : (k : Int) + 1 < (n : Int) := by omega
          have i3 : (j : Int) < (n' : Int) := by omega
          have i4 : (j : Int) + 1 < (n' : Int) := by omega
          have j1 : IntKind.i64.wrap ((k : Int) + 1) = (k : Int) + 1 := IntWalk.i64_in _ (by omega)
          have j2 : (0 : Int) ≤ (k : Int) + 1 := by omega
          have j3 : ((k : Int) + 1).toNat = k + 1 := by omega
          have j4 : IntKind.i64.wrap ((j : Int) + 1) = (j : Int) + 1 := IntWalk.i64_in _ (by omega)
          have j5 : (0 : Int) ≤ (j : Int) + 1 := by omega
          have j6 : ((j : Int) + 1).toNat = j + 1 := by omega
          clear hu hv hd2 hlen2 hs hcz2 HP
          by_cases c1 : x ≤ v
          · have b1 : decide (x ≤ v) = true := decide_eq_true c1
            by_cases c2 : u ≤ y
            · have b2 : decide (u ≤ y) = true := decide_eq_true c2
              have hT : T = true := by rw [← HD.out, b1, b2]; rfl
              have HT := Lib.hid hT
              clear hT HD
              go_wp2_with fail
              go_quiet (fail)
              clear j1 j2 j3 j4 j5 j6
              go_wp2_with fail
              go_ret
              exact ⟨ret_bool HT.out.symm, Drew.two _ _ _⟩
            · have b2 : decide (u ≤ y) = false := decide_eq_false c2
              have hT : (meet1 x y (ys.drop (j + 2)) || meet (xs.drop (k + 2)) ys) = T := by rw [← HD.out, b1, b2]; rfl
              have HT := Lib.hid hT
              clear hT HD
              go_wp2_with fail
              go_quiet (fail)
              clear j1 j2 j3 j4 j5 j6
              go_wp2_with fail
              go_roundw
              case rel => exact ⟨j + 2, by omega, by go_num, HT, Drew.one _ _⟩
              case measure => simp [intOf]; omega
          · have b1 : decide (x ≤ v) = false := decide_eq_false c1
            have hT : (meet1 x y (ys.drop (j + 2)) || meet (xs.drop (k + 2)) ys) = T := by rw [← HD.out, b1]; rfl
            have HT := Lib.hid hT
            clear hT HD
            go_wp2_with fail
            go_quiet (fail)
            clear j1 j2 j3 j4 j5 j6
            go_wp2_with fail
            go_roundw
            case rel => exact ⟨j + 2, by omega, by go_num, HT, Drew.one _ _⟩
            case measure => simp [intOf]; omega
        · have hT : meet (xs.drop (k + 2)) ys = T := by
            have h1 := meet1_short x y (ys.drop j) (by rw [List.length_drop, HY.out.1]; omega)
            have h2 := HP.out
            rwa [h1, Bool.false_or] at h2
          have HT := Lib.hid hT
          clear hT HP
          go_wp2_with fail
          go_roundw
          case rel => exact ⟨k + 2, by omega, by go_num, HT, Drew.one _ _⟩
          case measure => simp [intOf]; omega
    · have hT : T = false := by
        rw [← HP.out]
        exact meet_short ys _ (by rw [List.length_drop, HX.out.1]; omega)
      have HT := Lib.hid hT
      clear hT HP
      go_wp2_with fail
      go_ret
      exact ⟨ret_bool HT.out.symm, Drew.one _ _⟩
end Go.Proofs.Ytlbfcahmmjmgjaa
