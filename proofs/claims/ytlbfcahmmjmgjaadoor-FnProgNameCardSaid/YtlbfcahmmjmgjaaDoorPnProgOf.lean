/- THE WALK of progOf: it makes the program of two instructions; of what was there nothing has turned. -/
import Derived.Test.YtlbfcahmmjmgjaaDoorPnProg
import Derived.Test.YtlbfcahmmjmgjaaDoorPnRegion
import Derived.OneCell
import Derived.Deep.AppendLies
import Derived.Deep.LoopGhost
import Derived.OrdersHeld
import Derived.IntWalk
import Derived.Lib.SliceRun
namespace Go.Proofs.YtlbfcahmmjmgjaaDoor
open Go.RowKit
set_option linter.unusedSimpArgs false

set_option maxRecDepth 100000 in
set_option maxHeartbeats 400000 in
theorem cloneNone_any (w : World) : Calls Tryd.prog 22 #[.slice none 0 0] w fun e w' => e = .returned (.slice none 0 0) ∧ w = w' := by
  have q : ∀ (w : World) (a : Option Addr) (n c n' c' : Nat), (binOp .eql 27 (.slice a n c) (.slice none n' c')).run Tryd.prog w = .ok (.bool a.isNone) w := fun w a n c n' c' => Lib.run_eql_slice_nil w _ _ a n c n' c' Tryd.underlying27
  go_enter Tryd.func22, Tryd.ntmps22
  go_wp2
  go_ret
  exact ⟨rfl, rfl⟩

/-- The two instructions, as the law lists them. -/
structure Two (w : World) (I : Nat) : Prop where
  a0 : w.cell? ⟨I, 0, none⟩ = some (.int .i64 5)
  a1 : w.cell? ⟨I, 1, none⟩ = some (.int .i64 0)
  a2 : w.cell? ⟨I, 2, none⟩ = some (.int .i64 0)
  a3 : w.cell? ⟨I, 3, none⟩ = some (.slice none 0 0)
  b0 : w.cell? ⟨I, 4, none⟩ = some (.int .i64 4)
  b1 : w.cell? ⟨I, 5, none⟩ = some (.int .i64 0)
  b2 : w.cell? ⟨I, 6, none⟩ = some (.int .i64 0)
  b3 : w.cell? ⟨I, 7, none⟩ = some (.slice none 0 0)
theorem Two.keep {w w' : World} {I : Nat} (h : Two w I) (hk : ∀ o, w'.cell? ⟨I, o, none⟩ = w.cell? ⟨I, o, none⟩) : Two w' I :=
  ⟨(hk _).trans h.a0, (hk _).trans h.a1, (hk _).trans h.a2, (hk _).trans h.a3, (hk _).trans h.b0, (hk _).trans h.b1, (hk _).trans h.b2, (hk _).trans h.b3⟩
theorem Two.lt {w : World} {I : Nat} (h : Two w I) : I < w.heap.size := World.block_lt_of_cell? _ _ h.a0
theorem Two.below {w w' : World} {I : Nat} (h : Two w I) (hb : Below w.heap.size w w') : Two w' I := h.keep fun _ => hb.cell h.lt

/-- A program at p. -/
def GivesProg (n : Nat) (w : World) (e : Ending) (w' : World) : Prop :=
  ∃ p a c, e = .returned (.pointer (some ⟨p, 0, none⟩)) ∧ PAt w' p a c (2 * (n : Int)) ∧ Below w.heap.size w w'

theorem Tryd.info60 : (Tryd.prog.info? 60).map (fun i => (i.zero, i.size, i.bytes)) = some (some (.agg #[.int .u8 0, .int .u32 0, .int .u32 0, .slice none 0 0]), 4, 40) := by kernel_rfl

/-- The cells of k instructions made. -/
def row : Nat → List Value
  | 0 => []
  | 1 => [.int .u8 5, .int .u32 0, .int .u32 0, .slice none 0 0]
  | _ => [.int .u8 5, .int .u32 0, .int .u32 0, .slice none 0 0, .int .u8 4, .int .u32 0, .int .u32 0, .slice none 0 0]
/-- The op of instruction k, as listed. -/
def opk (k : Nat) : Int := if k = 0 then 5 else 4
theorem row_step (k : Nat) (h : k < 2) : row k ++ [.int .u8 (opk k), .int .u32 0, .int .u32 0, .slice none 0 0] = row (k + 1) := by
  rcases k with _ | _ | k
  · rfl
  · rfl
  · omega
theorem Two.at {w : World} {I k : Nat} (h : Two w I) (hk : k < 2) : w.cell? ⟨I, k * 4, none⟩ = some (.int .i64 (opk k)) ∧ w.cell? ⟨I, k * 4 + 1, none⟩ = some (.int .i64 0) ∧ w.cell? ⟨I, k * 4 + 2, none⟩ = some (.int .i64 0) ∧ w.cell? ⟨I, k * 4 + 3, none⟩ = some (.slice none 0 0) := by
  rcases k with _ | _ | k
  · exact ⟨h.a0, h.a1, h.a2, h.a3⟩
  · exact ⟨h.b0, h.b1, h.b2, h.b3⟩
  · omega

/-- WHAT THE LOOP OF progOf MEETS, with k instructions made. -/
structure Bld (w0 w : World) (P I k : Nat) (vm : Value) (q : Int) : Prop where
  cp : w.heap[P]? = some (.cells #[vm, .int .i64 1, .int .i64 q] 54 (0, 0))
  om : w.ownsRow w0.heap.size 60 4 vm k (row k)
  two : Two w I
  iLt : I < w0.heap.size
  pP : w0.heap.size ≤ P
  hb : Below w0.heap.size w0 w
section
variable {w0 w w' : World} {P I k : Nat} {vm v' : Value} {q : Int}
theorem Bld.drewN (h : Bld w0 w P I k vm q) (m : Nat) : Bld w0 (w.drewN m) P I k vm q := ⟨h.cp, h.om, ⟨h.two.a0, h.two.a1, h.two.a2, h.two.a3, h.two.b0, h.two.b1, h.two.b2, h.two.b3⟩, h.iLt, h.pP, below_drewN h.hb m⟩
theorem Bld.alloc (h : Bld w0 w P I k vm q) (o : Obj) : Bld w0 (w.alloc o) P I k vm q :=
  ⟨(Below.heap_alloc w o _ (lt_of_block h.cp)).trans h.cp, h.om.alloc _, h.two.below ((Below.refl _ _).alloc (Nat.le_refl _) o), h.iLt, h.pP, h.hb.trans ((Below.refl _ _).alloc h.hb.size o)⟩
theorem own_ne {w : World} {base : Nat} {e : TypeId} {size n : Nat} {v : Value} {xs : List Value} {g : Nat} {t : TypeId} {cs : Array Value} {fr : Nat × Nat} (h : w.ownsRow base e size v n xs) (hg : w.heap[g]? = some (.cells cs t fr)) (hne : e ≠ t) : v.ownBlock ≠ some g := by
  rcases h.2 with ⟨rfl, _⟩ | ⟨g', cap, cur, rfl, _, hh, _⟩
  · simp [Value.ownBlock]
  · intro he
    have : g' = g := by simpa [Value.ownBlock] using he
    subst this
    rw [hh] at hg
    injection hg with hg
    injection hg with _ ht
    exact hne ht
/-- 'p.Inst = append(p.Inst, ..)': the append, then the store. -/
theorem Bld.put (h : Bld w0 w P I k vm q) (hg : w.grownBy w' vm.ownBlock) (ho : w'.ownsRow w0.heap.size 60 4 v' (k + 1) (row (k + 1))) : Bld w0 (w'.setCell ⟨P, 0, none⟩ v') P I (k + 1) v' q := by
  have lo : ∀ b, b < w0.heap.size → w'.heap[b]? = w.heap[b]? := fun b hb => hg.block b (Nat.lt_of_lt_of_le hb h.hb.size) (fun e => by have := (h.om.lt b e.symm).1; omega)
  have hP : w'.heap[P]? = some (.cells #[vm, .int .i64 1, .int .i64 q] 54 (0, 0)) := (hg.block P (lt_of_block h.cp) (fun e => own_ne h.om h.cp (by decide) e.symm)).trans h.cp
  have hPb : ∀ b, b < w0.heap.size → (w'.setCell ⟨P, 0, none⟩ v').heap[b]? = w.heap[b]? := fun b hb => (Below.heap_setCell w' ⟨P, 0, none⟩ v' b (by have := h.pP; show b ≠ P; omega)).trans (lo b hb)
  refine ⟨heap_setCell_same w' P 0 _ 54 v' hP, ownsRow_setCell_other ho (own_ne ho hP (by decide)) _, h.two.keep (fun o => World.cell?_of_block (a := ⟨I, o, none⟩) (hPb I h.iLt)), h.iLt, h.pP, ?_⟩
  exact ⟨hg.os.trans h.hb.os, hg.tape.trans h.hb.tape, hg.output.trans h.hb.output, Nat.le_trans h.hb.size (by simpa [World.setCell] using hg.size), fun b hb => (hPb b hb).trans (h.hb.block b hb)⟩
end

theorem prog_done {w0 w : World} {P I : Nat} {vm : Value} {q : Int} (h : Bld w0 w P I 2 vm q) : ∃ ga ca, PAt w P ga ca q := by
  obtain ⟨g, cap, rfl, _, hlt⟩ := h.om.form (by omega)
  refine ⟨g, cap, ?_, ?_, ?_, ?_⟩
  · rw [cell_of_row _ _ _ _ _ _ h.cp]; rfl
  · rw [cell_of_row _ _ _ _ _ _ h.cp]; rfl
  · rw [cell_of_row _ _ _ _ _ _ h.cp]; rfl
  · rw [h.om.cellAt 4 (by omega)]; rfl

/-- The cells that the great statement loads. -/
def LoadsP (P V : Nat) (x : Int) (vm : Value) (w' : World) : Prop :=
  w'.cell? ⟨P, 0, none⟩ = some vm ∧ w'.cell? ⟨V, 0, none⟩ = some (.int .i64 x) ∧ w'.cell? ⟨V, 1, none⟩ = some (.int .i64 0) ∧ w'.cell? ⟨V, 2, none⟩ = some (.int .i64 0) ∧ w'.cell? ⟨V, 3, none⟩ = some (.slice none 0 0)

set_option maxRecDepth 100000 in
set_option maxHeartbeats 1600000 in
theorem progOf_any (I : Nat) (A : Option Addr) (n c : Nat) (w : World) (hn : n ≤ 20) (h : Two w I) :
    Calls Tryd.prog 18 #[.agg #[.slice (some ⟨I, 0, none⟩) 2 2, .int .i64 1, .slice A n c]] w (GivesProg n w) := by
  obtain ⟨i0, hi, hz0, hz1, hz2⟩ := info_parts Tryd.info60
  have j1 : IntKind.i64.wrap (2 * (n : Int)) = 2 * (n : Int) := IntWalk.i64_in _ (by omega)
  obtain ⟨q, hq⟩ : ∃ q : Int, q = 2 * (n : Int) := ⟨_, rfl⟩
  rw [← hq] at j1
  have hB : Bld w ((w.alloc (.cells #[.slice (some ⟨I, 0, none⟩) 2 2, .int .i64 1, .slice A n c] 32)).alloc (.cells #[.slice none 0 0, .int .i64 1, .int .i64 q] 54)) (w.heap.size + 1) I 0 (.slice none 0 0) q := by
    refine ⟨by simpa using heap_alloc_new (w.alloc (.cells #[.slice (some ⟨I, 0, none⟩) 2 2, .int .i64 1, .slice A n c] 32)) _, World.ownsRow_nil _ _ _ _, ?_, h.lt, by omega, ?_⟩
    · exact h.below (((Below.refl _ _).alloc (Nat.le_refl _) _).trans ((Below.refl _ _).alloc (by simp) _))
    · exact ((Below.refl _ _).alloc (Nat.le_refl _) _).trans ((Below.refl _ _).alloc (by simp) _)
  have HB := Lib.hid hB
  have HQ := Lib.hid hq
  clear h hB hq
  go_enter Tryd.func18, Tryd.ntmps18
  go_wp2_with fail
  obtain ⟨P, hP⟩ : ∃ P, P = w.heap.size + 1 := ⟨_, rfl⟩
  rw [← hP]
  go_loopg [17] 2 (fun g x wr => ∃ (k : Nat) (vm : Value), k ≤ 2 ∧ g = 2 - k ∧ x = .int .i64 (k : Int) ∧ Hid (Bld w wr P I k vm q))
  case atStart => exact ⟨0, _, by omega, rfl, rfl, Lib.hid (by have := HB.out; rw [hP]; rw [HQ.out] at this ⊢; exact this)⟩
  case round =>
    clear HB hP
    obtain ⟨k, vm, hk, rfl, rfl, HM⟩ := hrel
    by_cases hlt : k < 2
    · obtain ⟨d0, d1, d2, d3⟩ := HM.out.two.at hlt
      have i1 : (k : Int) < 2 := by omega
      go_wp2_with fail
      obtain ⟨w1, hw1⟩ : ∃ w1, w1 = wr.alloc (.cells #[.int .i64 (opk k), .int .i64 0, .int .i64 0, .slice none 0 0] 29) := ⟨_, rfl⟩
      rw [← hw1]
      obtain ⟨V, hV⟩ : ∃ V, V = wr.heap.size := ⟨_, rfl⟩
      rw [← hV]
      have hM1 : Bld w w1 P I k vm q := by rw [hw1]; exact HM.out.alloc _
      have g1 : w1.cell? ⟨V, 0, none⟩ = some (.int .i64 (opk k)) := by rw [hw1, hV]; simp [go_sem]
      have g2 : w1.cell? ⟨V, 1, none⟩ = some (.int .i64 0) := by rw [hw1, hV]; simp [go_sem]
      have g3 : w1.cell? ⟨V, 2, none⟩ = some (.int .i64 0) := by rw [hw1, hV]; simp [go_sem]
      have g4 : w1.cell? ⟨V, 3, none⟩ = some (.slice none 0 0) := by rw [hw1, hV]; simp [go_sem]
      have g0 : w1.cell? ⟨P, 0, none⟩ = some vm := by rw [cell_of_row _ _ _ _ _ _ hM1.cp]; rfl
      have lV : V < w1.heap.size := World.block_lt_of_cell? _ _ g1
      have lP : P < w1.heap.size := World.block_lt_of_cell? _ _ g0
      have gV : vm.ownBlock ≠ some V := fun e => by
        have h1 := (HM.out.om.lt _ e).2
        omega
      have gP := own_ne hM1.om hM1.cp (by decide)
      have j2 : IntKind.u8.wrap (opk k) = opk k := by unfold opk; split <;> decide
      have j3 : IntKind.u32.wrap 0 = 0 := by decide
      have H1 := Lib.hid hM1
      clear d0 d1 d2 d3 i1 hw1 hV hM1
      have hS : LoadsP P V (opk k) vm w1.drew := ⟨g0, g1, g2, g3, g4⟩
      refine T_region 22 (LoadsP P V (opk k) vm) (by kernel_rfl) ?_
      refine T_take (i := 0) (v := ?v0) rfl (by kernel_rfl) (by kernel_rfl) (fun _ _ _ h => h) (Or.inl ⟨by rfl, ?y0⟩) hS ?_
      case y0 => intro w' hSw; obtain ⟨s1, s2, s3, s4, s5⟩ := hSw; go_simp; try with_reducible rfl
      simp only [Act.put, List.setIfInBounds_toArray, List.set_cons_zero, List.set_cons_succ]
      refine T_take (i := 1) (v := ?v1) rfl (by kernel_rfl) (by kernel_rfl) (fun _ _ _ h => h) (Or.inl ⟨by rfl, ?y1⟩) hS ?_
      case y1 => intro w' hSw; obtain ⟨s1, s2, s3, s4, s5⟩ := hSw; go_simp; try with_reducible rfl
      simp only [Act.put, List.setIfInBounds_toArray, List.set_cons_zero, List.set_cons_succ]
      refine T_take (i := 2) (v := ?v2) rfl (by kernel_rfl) (by kernel_rfl) (fun _ _ _ h => h) (Or.inl ⟨by rfl, ?y2⟩) hS ?_
      case y2 => intro w' hSw; obtain ⟨s1, s2, s3, s4, s5⟩ := hSw; go_simp; try with_reducible rfl
      simp only [Act.put, List.setIfInBounds_toArray, List.set_cons_zero, List.set_cons_succ]
      refine T_take (i := 3) (v := ?v3) rfl (by kernel_rfl) (by kernel_rfl) (fun _ _ _ h => h) (Or.inl ⟨by rfl, ?y3⟩) hS ?_
      case y3 => intro w' hSw; obtain ⟨s1, s2, s3, s4, s5⟩ := hSw; go_simp; try with_reducible rfl
      simp only [Act.put, List.setIfInBounds_toArray, List.set_cons_zero, List.set_cons_succ]
      refine T_take (i := 4) (v := ?v4) rfl (by kernel_rfl) (by kernel_rfl) (fun _ _ _ h => h) (Or.inl ⟨by rfl, ?y4⟩) hS ?_
      case y4 => intro w' hSw; obtain ⟨s1, s2, s3, s4, s5⟩ := hSw; go_simp; try with_reducible rfl
      simp only [Act.put, List.setIfInBounds_toArray, List.set_cons_zero, List.set_cons_succ]
      refine T_take (i := 5) (v := ?v5) rfl (by kernel_rfl) (by kernel_rfl) (fun _ _ _ h => h) (Or.inl ⟨by rfl, ?y5⟩) hS ?_
      case y5 => intro w' hSw; obtain ⟨s1, s2, s3, s4, s5⟩ := hSw; go_simp; try with_reducible rfl
      simp only [Act.put, List.setIfInBounds_toArray, List.set_cons_zero, List.set_cons_succ]
      refine T_take (i := 6) (v := ?v6) rfl (by kernel_rfl) (by kernel_rfl) (fun _ _ _ h => h) (Or.inl ⟨by rfl, ?y6⟩) hS ?_
      case y6 => intro w' hSw; obtain ⟨s1, s2, s3, s4, s5⟩ := hSw; go_simp; try with_reducible rfl
      simp only [Act.put, List.setIfInBounds_toArray, List.set_cons_zero, List.set_cons_succ]
      refine T_take (i := 7) (v := ?v7) rfl (by kernel_rfl) (by kernel_rfl) (fun _ _ _ h => h) (Or.inl ⟨by rfl, ?y7⟩) hS ?_
      case y7 => intro w' hSw; obtain ⟨s1, s2, s3, s4, s5⟩ := hSw; go_simp; try with_reducible rfl
      simp only [Act.put, List.setIfInBounds_toArray, List.set_cons_zero, List.set_cons_succ]
      refine T_take (i := 8) (v := ?v8) rfl (by kernel_rfl) (by kernel_rfl) (fun _ _ _ h => h) (Or.inl ⟨by rfl, ?y8⟩) hS ?_
      case y8 => intro w' hSw; obtain ⟨s1, s2, s3, s4, s5⟩ := hSw; go_simp; try with_reducible rfl
      simp only [Act.put, List.setIfInBounds_toArray, List.set_cons_zero, List.set_cons_succ]
      refine T_take (i := 9) (v := ?v9) rfl (by kernel_rfl) (by kernel_rfl) (fun _ _ _ h => h) (Or.inl ⟨by rfl, ?y9⟩) hS ?_
      case y9 => intro w' hSw; obtain ⟨s1, s2, s3, s4, s5⟩ := hSw; go_simp; try with_reducible rfl
      simp only [Act.put, List.setIfInBounds_toArray, List.set_cons_zero, List.set_cons_succ]
      refine T_take (i := 10) (v := ?v10) rfl (by kernel_rfl) (by kernel_rfl) (fun _ _ _ h => h) (Or.inl ⟨by rfl, ?y10⟩) hS ?_
      case y10 => intro w' hSw; obtain ⟨s1, s2, s3, s4, s5⟩ := hSw; go_simp; try with_reducible rfl
      simp only [Act.put, List.setIfInBounds_toArray, List.set_cons_zero, List.set_cons_succ]
      refine T_take (i := 11) (v := ?v11) rfl (by kernel_rfl) (by kernel_rfl) (fun _ _ _ h => h) (Or.inl ⟨by rfl, ?y11⟩) hS ?_
      case y11 => intro w' hSw; obtain ⟨s1, s2, s3, s4, s5⟩ := hSw; go_simp; try with_reducible rfl
      simp only [Act.put, List.setIfInBounds_toArray, List.set_cons_zero, List.set_cons_succ]
      refine T_take (i := 12) (v := ?v12) rfl (by kernel_rfl) (by kernel_rfl) (fun _ _ _ h => h) (Or.inl ⟨by rfl, ?y12⟩) hS ?_
      case y12 => intro w' hSw; obtain ⟨s1, s2, s3, s4, s5⟩ := hSw; go_simp; try with_reducible rfl
      simp only [Act.put, List.setIfInBounds_toArray, List.set_cons_zero, List.set_cons_succ]
      refine T_take (i := 13) (v := ?v13) rfl (by kernel_rfl) (by kernel_rfl) (fun _ _ _ h => h) (Or.inl ⟨by rfl, ?y13⟩) hS ?_
      case y13 => intro w' hSw; obtain ⟨s1, s2, s3, s4, s5⟩ := hSw; go_simp; try with_reducible rfl
      simp only [Act.put, List.setIfInBounds_toArray, List.set_cons_zero, List.set_cons_succ]
      refine T_take (i := 14) (v := ?v14) rfl (by kernel_rfl) (by kernel_rfl) (fun _ _ _ h => h) (Or.inl ⟨by rfl, ?y14⟩) hS ?_
      case y14 => intro w' hSw; obtain ⟨s1, s2, s3, s4, s5⟩ := hSw; go_simp; try with_reducible rfl
      simp only [Act.put, List.setIfInBounds_toArray, List.set_cons_zero, List.set_cons_succ]
      refine T_take (i := 15) (v := ?v15) rfl (by kernel_rfl) (by kernel_rfl) (fun _ _ _ h => h) (Or.inl ⟨by rfl, ?y15⟩) hS ?_
      case y15 => intro w' hSw; obtain ⟨s1, s2, s3, s4, s5⟩ := hSw; go_simp; try with_reducible rfl
      simp only [Act.put, List.setIfInBounds_toArray, List.set_cons_zero, List.set_cons_succ]
      refine T_one (i := 16) (by kernel_rfl) rfl rfl (fun K hK => ?_)
      go_simp
      refine (cloneNone_any _).mono ?_
      rintro e w' ⟨rfl, rfl⟩
      refine hK.out _ _ hS ?_
      clear hK K
      try simp only [Act.put, List.setIfInBounds_toArray, List.set_cons_zero, List.set_cons_succ]
      refine T_one (i := 17) (by kernel_rfl) rfl rfl (fun K hK => ?_)
      go_simp
      refine hK.out _ _ hS ?_
      clear hK K
      try simp only [Act.put, List.setIfInBounds_toArray, List.set_cons_zero, List.set_cons_succ]
      refine T_one (i := 18) (by kernel_rfl) rfl rfl (fun K hK => ?_)
      go_simp
      refine hK.out _ _ ?_ ?_
      · exact ⟨(World.cell?_alloc_lt w1 _ _ lP).trans g0, (World.cell?_alloc_lt w1 _ _ lV).trans g1, (World.cell?_alloc_lt w1 _ _ lV).trans g2, (World.cell?_alloc_lt w1 _ _ lV).trans g3, (World.cell?_alloc_lt w1 _ _ lV).trans g4⟩
      clear hK K hS
      try simp only [Act.put, List.setIfInBounds_toArray, List.set_cons_zero, List.set_cons_succ]
      refine T_one (i := 19) (by kernel_rfl) rfl rfl (fun K hK => ?_)
      refine wp_append_lies _ _ _ _ (by rfl) w.heap.size 60 i0 (.agg #[.int .u8 0, .int .u32 0, .int .u32 0, .slice none 0 0]) 4 40 Tryd.underlying52 hi hz0 hz1 hz2 rfl (by omega) vm k (row k) (by rfl) ((H1.out.drewN 1).alloc _).om
        ⟨w1.heap.size, 0, none⟩ 1 1 [.int .u8 (opk k), .int .u32 0, .int .u32 0, .slice none 0 0] (by rfl) (by rfl) (World.news_of_block (cs := #[.int .u8 (opk k), .int .u32 0, .int .u32 0, .slice none 0 0]) (t := 60) (fr := (0, 0)) (heap_alloc_new w1.drew _)) (by simp [Value.oneCell'])
        (by omega) (by unfold maxLen; omega) (by omega) (by have h1 := H1.out.hb.size; simp; omega) (w1.heap.size + 1) (by simp) ?_
      intro ga ca w2 hown hgrow _ _
      have k0 : w2.cell? ⟨P, 0, none⟩ = some vm := (hgrow.cell_far ⟨P, 0, none⟩ (by simp; omega) (Ne.symm gP)).trans ((World.cell?_alloc_lt w1 _ _ lP).trans g0)
      have hS2 : LoadsP P V (opk k) vm w2 := ⟨k0, (hgrow.cell_far ⟨V, 0, none⟩ (by simp; omega) (Ne.symm gV)).trans ((World.cell?_alloc_lt w1 _ _ lV).trans g1),
        (hgrow.cell_far ⟨V, 1, none⟩ (by simp; omega) (Ne.symm gV)).trans ((World.cell?_alloc_lt w1 _ _ lV).trans g2),
        (hgrow.cell_far ⟨V, 2, none⟩ (by simp; omega) (Ne.symm gV)).trans ((World.cell?_alloc_lt w1 _ _ lV).trans g3),
        (hgrow.cell_far ⟨V, 3, none⟩ (by simp; omega) (Ne.symm gV)).trans ((World.cell?_alloc_lt w1 _ _ lV).trans g4)⟩
      refine hK.out _ _ hS2 ?_
      clear hK K
      try simp only [Act.put, List.setIfInBounds_toArray, List.set_cons_zero, List.set_cons_succ]
      have hPw : w2.heap[P]? = some (.cells #[vm, .int .i64 1, .int .i64 q] 54 (0, 0)) := (hgrow.block P (by simp; omega) (Ne.symm gP)).trans ((H1.out.drewN 1).alloc _).cp
      have kf : w2.frozen? ⟨P, 0, none⟩ = false := by simp [World.frozen?, hPw]
      have hM2 := ((H1.out.drewN 1).alloc _).put hgrow (by rw [row_step k hlt] at hown; exact hown)
      have HM2 := Lib.hid hM2
      clear hM2 hPw hown hgrow
      refine T_one (i := 20) (by kernel_rfl) rfl rfl (fun K hK => ?_)
      go_simp
      refine hK.out _ _ hS2 ?_
      clear hK K
      try simp only [Act.put, List.setIfInBounds_toArray, List.set_cons_zero, List.set_cons_succ]
      refine T_one (i := 21) (by kernel_rfl) rfl rfl (fun K hK => ?_)
      go_simp
      refine hK.out _ _ hS2 ?_
      clear hK K hS2 g0 g1 g2 g3 g4
      try simp only [Act.put, List.setIfInBounds_toArray, List.set_cons_zero, List.set_cons_succ]
      refine T_last (by kernel_rfl) (by kernel_rfl) rfl rfl (fun K hK => ?_)
      go_simp
      refine hK.out _ _ ?_
      clear hK K
      clear k0 kf j2 j3
      go_wp2_with fail
      go_roundg (2 - (k + 1))
      case measure => omega
      case rel => exact ⟨k + 1, _, by omega, rfl, by go_num, HM2⟩
    · obtain rfl : k = 2 := by omega
      have hf := prog_done HM.out
      obtain ⟨ga, ca, hp⟩ := hf
      have HP := Lib.hid hp
      have HBB := Lib.hid HM.out.hb
      clear hp
      go_wp2_with fail
      go_ret
      exact ⟨P, ga, ca, rfl, by rw [← HQ.out]; exact HP.out, HBB.out⟩
end Go.Proofs.YtlbfcahmmjmgjaaDoor
