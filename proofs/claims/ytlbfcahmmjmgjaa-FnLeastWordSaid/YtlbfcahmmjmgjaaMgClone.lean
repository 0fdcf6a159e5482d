/- THE WALKS of slices.Clone at []rune and []uint32: of a slice that reads as a list it gives one that reads as the same list; of what was there nothing has turned. Condition: at most 1000 elements. -/
import Derived.Test.YtlbfcahmmjmgjaaProg
import Derived.Test.YtlbfcahmmjmgjaaMgRead
import Derived.WalkSpells
import Derived.WalkLawsBesides
import Derived.OwnWalk
import Derived.Lib.SliceRun
import Derived.Lib.Hide
namespace Go.Proofs.Ytlbfcahmmjmgjaa
open Go.RowKit

theorem Try.info21 : (Try.prog.info? 21).map (fun i => (i.zero, i.size, i.bytes)) = some (some (.int .i32 0), 1, 4) := by kernel_rfl
theorem Try.info23 : (Try.prog.info? 23).map (fun i => (i.zero, i.size, i.bytes)) = some (some (.int .u32 0), 1, 4) := by kernel_rfl

/-- The answer is a slice that reads as zs, in a world that has only grown. -/
def Gives (k : IntKind) (zs : List Int) (w : World) (e : Ending) (w' : World) : Prop :=
  ∃ A c, e = .returned (.slice A zs.length c) ∧ zs.length ≤ c ∧ Rd k w' w'.heap.size A zs.length zs ∧ Below w.heap.size w w'

theorem gives_own {k : IntKind} {zs : List Int} {w w' : World} {base : Nat} {e : TypeId} {v : Value} {n : Nat} (hn : n = zs.length) (hown : w'.ownsRow base e 1 v n (zs.map (Value.int k))) (hb : Below w.heap.size w w') : Gives k zs w (.returned v) w' := by
  rcases hown.2 with ⟨rfl, h0⟩ | ⟨g, cap, cur, rfl, _, _, hnc, _⟩
  · obtain rfl : zs = [] := List.eq_nil_of_length_eq_zero (by omega)
    exact ⟨none, 0, rfl, Nat.le_refl _, Rd.nil, hb⟩
  · subst hn
    exact ⟨_, cap, rfl, hnc, Rd.of_own hown, hb⟩

theorem cells_at {k : IntKind} {w : World} {B n : Nat} {a : Addr} {zs : List Int} (h : Rd k w B (some a) n zs) (o : Obj) (hB : B ≤ w.heap.size) :
    ∀ j u, (zs.map (Value.int k))[j]? = some u → (w.alloc o).cell? (a.add j) = some u := by
  intro j u hu
  have hj : j < zs.length := by have := (List.getElem?_eq_some_iff.1 hu).1; simpa using this
  have hjn : j < n := by rw [← h.1]; exact hj
  obtain ⟨b, off, e, hb, hc⟩ := h.2 (by omega)
  obtain rfl := Option.some.inj e
  have e2 : (⟨b, off, none⟩ : Addr).add j = ⟨b, off + j, none⟩ := by unfold Addr.add; split <;> simp_all
  rw [e2, World.cell?_alloc_lt w o _ (by show b < _; omega), hc j hjn]
  simp [List.getElem?_eq_getElem hj] at hu
  simp [List.getD, List.getElem?_eq_getElem hj, hu]

set_option maxRecDepth 100000 in
set_option maxHeartbeats 800000 in
theorem clone32_any (A : Option Addr) (n c : Nat) (zs : List Int) (w : World) (hn : n ≤ 1000) (hnil : A = none → n = 0) (hz : Rd .i32 w w.heap.size A n zs) :
    Calls Try.prog 14 #[.slice A n c] w (Gives .i32 zs w) := by
  have hl := hz.1
  cases A with
  | none =>
    obtain rfl := hnil rfl
    obtain rfl : zs = [] := List.eq_nil_of_length_eq_zero hl
    clear hz hl
    have q : ∀ (w : World) (a : Option Addr) (n c n' c' : Nat), (binOp .eql 22 (.slice a n c) (.slice none n' c')).run Try.prog w = .ok (.bool a.isNone) w := fun w a n c n' c' => Lib.run_eql_slice_nil w _ _ a n c n' c' Try.underlying22
    go_enter Try.func14, Try.ntmps14
    go_wp2
    go_ret
    exact ⟨none, 0, rfl, Nat.le_refl _, Rd.nil, Below.refl _ _⟩
  | some a =>
    obtain ⟨i0, hi, hz0, hz1, hz2⟩ := info_parts Try.info21
    have q : ∀ (w : World) (a : Option Addr) (n c n' c' : Nat), (binOp .eql 22 (.slice a n c) (.slice none n' c')).run Try.prog w = .ok (.bool a.isNone) w := fun w a n c n' c' => Lib.run_eql_slice_nil w _ _ a n c n' c' Try.underlying22
    have HZ := Lib.hid hz
    have HL := Lib.hid hl
    clear hz hl
    go_enter Try.func14, Try.ntmps14
    go_wp2_with (at_builtin; refine wpList_append_own _ rfl _ _ 22 rfl w.heap.size 21 i0 (.int .i32 0) 1 4 Try.underlying22 hi hz0 hz1 hz2 rfl (by decide) _ _ _ rfl (World.ownsRow_made w #[] 0 (Nat.le_refl _) (Nat.zero_le _) rfl) a n c (zs.map (Value.int .i32)) rfl ?qc1 ?qc2 ?qc3 ?qc4 ?qc5 ?qc6 ?_)
    case qc1 => rw [List.length_map, HL.out, Nat.mul_one]
    case qc2 => exact cells_at HZ.out _ (Nat.le_refl _)
    case qc3 => intro u hu; obtain ⟨x, _, rfl⟩ := List.mem_map.1 hu; rfl
    case qc4 => unfold maxLen; omega
    case qc5 => omega
    case qc6 => simp
    intro v' w1 hown hgrow _
    go_wp2
    go_ret
    exact gives_own (n := n) HL.out.symm (by simpa using hown) (((Below.refl _ w).alloc (Nat.le_refl _) _).grown hgrow (by simp) (by intro k hk; simp [Value.ownBlock] at hk; omega))

set_option maxRecDepth 100000 in
set_option maxHeartbeats 800000 in
theorem cloneU_any (A : Option Addr) (n c : Nat) (zs : List Int) (w : World) (hn : n ≤ 1000) (hnil : A = none → n = 0) (hz : Rd .u32 w w.heap.size A n zs) :
    Calls Try.prog 15 #[.slice A n c] w (Gives .u32 zs w) := by
  have hl := hz.1
  cases A with
  | none =>
    obtain rfl := hnil rfl
    obtain rfl : zs = [] := List.eq_nil_of_length_eq_zero hl
    clear hz hl
    have q : ∀ (w : World) (a : Option Addr) (n c n' c' : Nat), (binOp .eql 25 (.slice a n c) (.slice none n' c')).run Try.prog w = .ok (.bool a.isNone) w := fun w a n c n' c' => Lib.run_eql_slice_nil w _ _ a n c n' c' Try.underlying25
    go_enter Try.func15, Try.ntmps15
    go_wp2
    go_ret
    exact ⟨none, 0, rfl, Nat.le_refl _, Rd.nil, Below.refl _ _⟩
  | some a =>
    obtain ⟨i0, hi, hz0, hz1, hz2⟩ := info_parts Try.info23
    have q : ∀ (w : World) (a : Option Addr) (n c n' c' : Nat), (binOp .eql 25 (.slice a n c) (.slice none n' c')).run Try.prog w = .ok (.bool a.isNone) w := fun w a n c n' c' => Lib.run_eql_slice_nil w _ _ a n c n' c' Try.underlying25
    have HZ := Lib.hid hz
    have HL := Lib.hid hl
    clear hz hl
    go_enter Try.func15, Try.ntmps15
    go_wp2_with (at_builtin; refine wpList_append_own _ rfl _ _ 25 rfl w.heap.size 23 i0 (.int .u32 0) 1 4 Try.underlying25 hi hz0 hz1 hz2 rfl (by decide) _ _ _ rfl (World.ownsRow_made w #[] 0 (Nat.le_refl _) (Nat.zero_le _) rfl) a n c (zs.map (Value.int .u32)) rfl ?qc1 ?qc2 ?qc3 ?qc4 ?qc5 ?qc6 ?_)
    case qc1 => rw [List.length_map, HL.out, Nat.mul_one]
    case qc2 => exact cells_at HZ.out _ (Nat.le_refl _)
    case qc3 => intro u hu; obtain ⟨x, _, rfl⟩ := List.mem_map.1 hu; rfl
    case qc4 => unfold maxLen; omega
    case qc5 => omega
    case qc6 => simp
    intro v' w1 hown hgrow _
    go_wp2
    go_ret
    exact gives_own (n := n) HL.out.symm (by simpa using hown) (((Below.refl _ w).alloc (Nat.le_refl _) _).grown hgrow (by simp) (by intro k hk; simp [Value.ownBlock] at hk; omega))
end Go.Proofs.Ytlbfcahmmjmgjaa
