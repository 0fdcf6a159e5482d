/- THE WALK of QuoteMeta: it answers the quoted text; of what was there nothing has turned. Conditions: at most 65536 bytes; the listed table lies in its variable. -/
import Derived.Test.YtlbfcahmmjmgjaaDoorPqPlain
import Derived.OwnWalk
import Derived.Laws.CopyOwn
import Derived.Lib.Hide
namespace Go.Proofs.YtlbfcahmmjmgjaaDoor
open Go.RowKit

theorem Tryd.info5 : (Tryd.prog.info? 5).map (fun i => (i.zero, i.size, i.bytes)) = some (some (.int .u8 0), 1, 1) := by kernel_rfl

theorem ret_str {a b : ByteArray} (h : a = b) : Ending.returned (.string a) = .returned (.string b) := by rw [h]
theorem mk_toList (s : ByteArray) : (⟨s.data.toList.toArray⟩ : ByteArray) = s := by simp

set_option maxRecDepth 100000 in
set_option maxHeartbeats 400000 in
theorem quote_any (s : ByteArray) (w : World) (hs : s.size ≤ 65536) (ht : TabAt w) (hb : 1 < w.heap.size) :
    Calls Tryd.prog 11 #[.string s] w fun e w' => e = .returned (.string ⟨(quo s.data.toList).toArray⟩) ∧ Below w.heap.size w w' := by
  have HT := Lib.hid ht
  clear ht
  go_enter Tryd.func11, Tryd.ntmps11
  go_wp2
  go_loop [3] (fun i => ∃ k : Nat, k ≤ s.size ∧ i = .int .i64 k ∧ Hid (quo (s.data.toList.take k) = s.data.toList.take k)) (fun i => s.size - (intOf i).toNat)
  case atStart => exact ⟨0, Nat.zero_le _, rfl, Lib.hid rfl⟩
  case round =>
    obtain ⟨k, hk, rfl, HQ⟩ := hrel
    by_cases hlt : k < s.size
    · cases hc : isSign s[k] with
      | false =>
        have HC := Lib.hid hc
        clear hc
        go_wp2_with fail
        refine (special_any _ _ HT.out).mono ?_
        rintro e w' ⟨rfl, rfl⟩
        rw [HC.out]
        go_wp2
        go_round
        case rel =>
          exact ⟨k + 1, by omega, by go_num, Lib.hid (by rw [quo_no s k hlt HC.out, HQ.out, take_snoc s k hlt])⟩
        case measure => simp [intOf]; omega
      | true =>
        have HC := Lib.hid hc
        clear hc
        have hdk : decide (s.size ≤ k) = false := decide_eq_false (by omega)
        obtain ⟨m, hm⟩ : ∃ m : Nat, m = 2 * s.size - k := ⟨_, rfl⟩
        have hm1 : k + 1 ≤ m := by omega
        have hm2 : m ≤ 131072 := by omega
        obtain ⟨i0, hi, hz0, hz1, hz2⟩ := info_parts Tryd.info5
        have hmk : ∀ W : World, (Instr.makeSlice 40 (.int .i64 (2 * (s.size : Int) - (k : Int))) (.int .i64 (2 * (s.size : Int) - (k : Int)))).run Tryd.prog W = .ok (.slice (some ⟨W.heap.size, 0, none⟩) m m) (W.alloc (.cells (madeCells #[Value.int .u8 0] m) 5)) := fun W => by
          have h := run_make (P := Tryd.prog) W 40 5 i0 (.int .u8 0) Tryd.underlying40 hi hz0 .i64 .i64 (2 * (s.size : Int) - (k : Int)) (2 * (s.size : Int) - (k : Int)) (by omega) (by omega) (by rw [hz2]; omega) (by omega)
          rw [show (2 * (s.size : Int) - (k : Int)).toNat = m by omega, hz1, Nat.mul_one] at h
          exact h
        have hxs : (s.extract 0 k).size = k := by simp; omega
        have hcp := Lib.run_copy_row_string (P := Tryd.prog) (w.alloc (.cells (madeCells #[Value.int .u8 0] m) 5)) 40 9 3 5 w.heap.size 0 m m (s.extract 0 k) _ 5 Tryd.underlying40 (by rw [hi]; simp [hz1]) (heap_alloc_new w _) (by omega) (by rw [size_madeCells]; omega)
        have hrow := row_copied w m k (s.extract 0 k) hxs (by omega)
        obtain ⟨Y, hY⟩ : ∃ Y, Y = ((madeCells #[Value.int .u8 0] m).toList.take 0 ++ Lib.byteCells (s.extract 0 k).data.toList ++ (madeCells #[Value.int .u8 0] m).toList.drop (0 + (s.extract 0 k).size)).toArray := ⟨_, rfl⟩
        rw [← hY] at hcp hrow
        rw [Lib.extract_data, Nat.sub_zero, List.drop_zero] at hrow
        obtain ⟨M, hM⟩ : ∃ M, M = madeCells #[Value.int .u8 0] m := ⟨_, rfl⟩
        rw [← hM] at hcp hrow hmk
        have hbel : Below w.heap.size w ((w.alloc (.cells M 5)).setRow w.heap.size Y) := below_setRow ((Below.refl _ _).alloc (Nat.le_refl _) _) (Nat.le_refl _) _
        have HB := Lib.hid hbel
        have HR := Lib.hid hrow
        have HM := Lib.hid hm
        clear hY hM hi hz0 hz1 hz2 hbel hrow hm hxs
        go_wp2_with fail
        refine (special_any _ _ HT.out).mono ?_
        rintro e w' ⟨rfl, rfl⟩
        rw [HC.out]
        go_wp2_with fail
        obtain ⟨B, hB⟩ : ∃ B, B = w.heap.size := ⟨_, rfl⟩
        go_loopw [3, 5] (fun i j wr => ∃ (n : Nat) (c : List UInt8), k ≤ n ∧ n ≤ s.size ∧ i = .int .i64 n ∧ j = .int .i64 c.length ∧ Hid (c = quo (s.data.toList.take n)) ∧ Hid (wr.rowIs w.heap.size 5 m (bytesFn c)) ∧ Hid (Below w.heap.size w wr)) (fun i _ _ => s.size - (intOf i).toNat)
        case atStart =>
          have h1 := HQ.out
          have h2 : (s.data.toList.take k).length = k := take_len s k hk
          exact ⟨k, s.data.toList.take k, Nat.le_refl _, hk, rfl, by rw [h2], Lib.hid h1.symm, HR, HB⟩
        case round =>
          obtain ⟨n, c, hkn, hn, rfl, rfl, HCq, HRow, HBel⟩ := hrel
          have hlen : c.length + 2 * (s.size - n) ≤ m := by
            have h1 := quo_bound s k HQ.out (n - k) (by omega)
            rw [show k + (n - k) = n by omega, ← HCq.out] at h1
            have := HM.out
            omega
          have HTr : Hid (TabAt wr) := Lib.hid fun i hi => (HBel.out.cell (p := ⟨1, i, none⟩) hb).trans (HT.out i hi)
          clear hmk hcp HR HB HT HC
          by_cases hltn : n < s.size
          · cases hc : isSign s[n] with
            | false =>
              have HC := Lib.hid hc
              clear hc
              have hc0 := HRow.out.cell (i := c.length) (by omega)
              have hf0 := HRow.out.frozen c.length
              go_wp2_with fail
              refine (special_any _ _ HTr.out).mono ?_
              rintro e w' ⟨rfl, rfl⟩
              rw [HC.out]
              go_wp2_with fail
              go_roundw
              case rel =>
                exact ⟨n + 1, c ++ [s[n]], by omega, by omega, by go_num, by rw [List.length_append]; go_num, Lib.hid (by rw [quo_no s n hltn HC.out, ← HCq.out]), Lib.hid (row_push HRow.out _), Lib.hid (HBel.out.setCell (Nat.le_refl _) _)⟩
              case measure => simp [intOf]; omega
            | true =>
              have HC := Lib.hid hc
              clear hc
              have hc0 := HRow.out.cell (i := c.length) (by omega)
              have hf0 := HRow.out.frozen c.length
              have hr1 : (wr.setCell ⟨w.heap.size, c.length, none⟩ (.int .u8 92)).rowIs w.heap.size 5 m (bytesFn (c ++ [92])) := row_push HRow.out 92
              have hc1 := hr1.cell (i := c.length + 1) (by omega)
              have hf1 := hr1.frozen (c.length + 1)
              have HR1 := Lib.hid hr1
              clear hr1
              go_wp2_with fail
              refine (special_any _ _ HTr.out).mono ?_
              rintro e w' ⟨rfl, rfl⟩
              rw [HC.out]
              go_wp2_with fail
              go_roundw
              case rel =>
                refine ⟨n + 1, c ++ [92, s[n]], by omega, by omega, by go_num, by rw [List.length_append]; go_num, Lib.hid (by rw [quo_yes s n hltn HC.out, ← HCq.out]), Lib.hid ?_, Lib.hid ((HBel.out.setCell (Nat.le_refl _) _).setCell (Nat.le_refl _) _)⟩
                have := row_push HR1.out s[n]
                rw [List.length_append] at this
                rw [List.append_assoc] at this
                exact this
              case measure => simp [intOf]; omega
          · obtain rfl : n = s.size := by omega
            have hcq : c = quo s.data.toList := by have := HCq.out; rwa [take_all] at this
            have HC2 := Lib.hid hcq
            have hconv := row_conv wr w.heap.size m c HRow.out (by omega) m
            clear hcq
            go_wp2_with fail
            go_ret
            exact ⟨ret_str (by rw [HC2.out]), HBel.out⟩
    · obtain rfl : k = s.size := by omega
      have hq : quo s.data.toList = s.data.toList := by have := HQ.out; rwa [take_all] at this
      have HQ2 := Lib.hid hq
      clear hq HQ
      go_wp2
      go_ret
      exact ⟨ret_str (by rw [HQ2.out, mk_toList]), Below.refl _ _⟩
end Go.Proofs.YtlbfcahmmjmgjaaDoor
