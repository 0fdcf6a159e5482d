/- THE WALK of mergeRuneSets' own function 'extend': it puts the next pair of one list behind what is gathered, and says true; or, where the last end is not below the pair's beginning, it says false and nothing has turned. -/
import Derived.Test.YtlbfcahmmjmgjaaMgClone
import Derived.Test.YtlbfcahmmjmgjaaMgFrame
import Derived.Deep.QuietTactic
import Derived.BigQuiet
import Derived.Test.YtlbfcahmmjmgjaaMgRegion
import Derived.Deep.AppendLies
import Derived.OrdersHeld
import Derived.IntWalk
namespace Go.Proofs.Ytlbfcahmmjmgjaa
open Go.RowKit
set_option linter.unusedSimpArgs false

/-- The blocks that extend leaves alone. -/
def Others (Q MG NX IX : Nat) (vm vn : Value) (k : Nat) : Prop := k ≠ Q ∧ k ≠ MG ∧ k ≠ NX ∧ k ≠ IX ∧ vm.ownBlock ≠ some k ∧ vn.ownBlock ≠ some k

/-- extend has put a pair behind. -/
def ExtDone (w : World) (base Q P1 MG NX IX q : Nat) (A : Option Addr) (n c : Nat) (zs : List Int) (ix : Int) (out nx : List Int) (vm vn : Value) (e : Ending) (w' : World) : Prop :=
  e = .returned (.bool true) ∧ ∃ v1 v2, Ext w' base Q P1 MG NX IX q A n c zs ix out nx v1 v2 ∧ Frm w w' (Others Q MG NX IX vm vn)

theorem ext_done {w w0 w1 w2 : World} {base Q P1 MG NX IX q n c : Nat} {A : Option Addr} {zs out nx : List Int} {ix : Int} {x y pc : Int} {vm vn v1 v2 : Value} {z iz : Int} {o1 o2 : Obj} (h : Ext w0 base Q P1 MG NX IX q A n c zs ix out nx vm vn)
    (f : Frm w w0 (Others Q MG NX IX vm vn))
    (ho1 : w1.ownsRow base 21 1 v1 (out.length + 2) (out.map (Value.int .i32) ++ [.int .i32 x, .int .i32 y])) (hg1 : (w0.alloc o1).drew.grownBy w1 vm.ownBlock)
    (hz : z = ((q + 2 : Nat) : Int))
    (ho2 : w2.ownsRow base 23 1 v2 (nx.length + 1) (nx.map (Value.int .u32) ++ [.int .u32 pc]))
    (hg2 : ((((w1.setCell ⟨MG, 0, none⟩ v1).setCell ⟨Q, 0, none⟩ (.int .i64 z)).setCell ⟨IX, 0, none⟩ (.int .i64 iz)).alloc o2).grownBy w2 vn.ownBlock) :
    ∃ v1 v2', Ext (w2.setCell ⟨NX, 0, none⟩ v2) base Q P1 MG NX IX (q + 2) A n c zs iz (out ++ [x, y]) (nx ++ [pc]) v1 v2' ∧ Frm w (w2.setCell ⟨NX, 0, none⟩ v2) (Others Q MG NX IX vm vn) := by
  have h1 := ((h.alloc o1).drewN 1).putM (out' := out ++ [x, y]) hg1 (by simpa using ho1)
  have h2 := ((h1.setQ (q + 2) hz).setI iz).alloc o2
  have h3 := h2.putN (nx' := nx ++ [pc]) hg2 (by simpa using ho2)
  refine ⟨_, _, h3, ?_⟩
  have f0 := (f.alloc o1).drewN 1
  have f1 := (f0.grown hg1 (fun k hk hk2 => hk2.2.2.2.2.1 hk)).setCell (p := ⟨MG, 0, none⟩) (fun hk => hk.2.1 rfl) v1
  have f2 := ((f1.setCell (p := ⟨Q, 0, none⟩) (fun hk => hk.1 rfl) (.int .i64 z)).setCell (p := ⟨IX, 0, none⟩) (fun hk => hk.2.2.2.1 rfl) (.int .i64 iz)).alloc o2
  exact (f2.grown hg2 (fun k hk hk2 => hk2.2.2.2.2.2 hk)).setCell (p := ⟨NX, 0, none⟩) (fun hk => hk.2.2.1 rfl) v2

theorem cells_one (w : World) (o1 : Value) (e : TypeId) (H : Nat) (hH : w.heap.size = H) : ∀ j u, ([o1] : List Value)[j]? = some u → (w.alloc (.cells #[o1] e)).cell? ((⟨H, 0, none⟩ : Addr).add j) = some u := by
  subst hH
  intro j u hu
  have e2 : (⟨w.heap.size, 0, none⟩ : Addr).add j = ⟨w.heap.size, j, none⟩ := by unfold Addr.add; split <;> simp_all
  rw [e2, cell_of_row _ _ _ _ _ _ (heap_alloc_new w _)]
  match j, hu with
  | 0, hu => simpa using hu

/-- The cells that the great statement loads. -/
def LoadsE (MG P1 Q b off q n c : Nat) (vm : Value) (x y : Int) (w' : World) : Prop :=
  w'.cell? ⟨MG, 0, none⟩ = some vm ∧ w'.cell? ⟨P1, 0, none⟩ = some (.slice (some ⟨b, off, none⟩) n c) ∧ w'.cell? ⟨Q, 0, none⟩ = some (.int .i64 (q : Int)) ∧
    w'.cell? ⟨b, off + q, none⟩ = some (.int .i32 x) ∧ w'.cell? ⟨b, off + (q + 1), none⟩ = some (.int .i32 y)

set_option maxRecDepth 100000 in
set_option maxHeartbeats 1600000 in
theorem ext_first {w : World} {base Q P1 MG NX IX : Nat} {q : Nat} {A : Option Addr} {n c : Nat} {zs : List Int} {out nx : List Int} {vm vn : Value} (h : Ext w base Q P1 MG NX IX q A n c zs (-1) out nx vm vn)
    (hq : q + 1 < n) (hn : n ≤ 1000) (ho : out.length ≤ 2000) (hnx : nx.length ≤ 2000) (pc : Int) :
    Calls Try.prog 22 #[.pointer (some ⟨Q, 0, none⟩), .pointer (some ⟨P1, 0, none⟩), .int .u32 pc, .pointer (some ⟨IX, 0, none⟩), .pointer (some ⟨MG, 0, none⟩), .pointer (some ⟨NX, 0, none⟩)] w
      (ExtDone w base Q P1 MG NX IX (q + 2) A n c zs 1 (out ++ [zs.getD q 0, zs.getD (q + 1) 0]) (nx ++ [pc]) vm vn) := by
  obtain ⟨b, off, rfl, hb, hcz⟩ := h.rd.2 (by omega)
  obtain ⟨i0, hi, hz0, hz1, hz2⟩ := info_parts Try.info21
  obtain ⟨k0, ki, kz0, kz1, kz2⟩ := info_parts Try.info23
  have f1 := cell_of_one h.cq
  have f2 := h.cp
  have f3 := cell_of_one h.cm
  have f5 := cell_of_one h.ci
  have f6 := hcz q (by omega)
  have f7 := hcz (q + 1) (by omega)
  obtain ⟨x, hx⟩ : ∃ x, x = zs.getD q 0 := ⟨_, rfl⟩
  obtain ⟨y, hy⟩ : ∃ y, y = zs.getD (q + 1) 0 := ⟨_, rfl⟩
  rw [← hx, ← hy]
  rw [← hx] at f6
  rw [← hy] at f7
  have HE := Lib.hid h
  clear hx hy hcz h
  have i1 : (q : Int) < (n : Int) := by omega
  have i2 : (q : Int) + 1 < (n : Int) := by omega
  have j1 : IntKind.i64.wrap ((q : Int) + 1) = (q : Int) + 1 := IntWalk.i64_in _ (by omega)
  have j2 : (0 : Int) ≤ (q : Int) + 1 := by omega
  have j3 : ((q : Int) + 1).toNat = q + 1 := by omega
  go_enter Try.func22, Try.ntmps22
  go_wp2_with fail
  go_quiet (fail)
  go_wp2_with fail
  obtain ⟨w0, hw0⟩ : ∃ w0, w0 = w.drewN nq := ⟨_, rfl⟩
  have h0 : Ext w0 base Q P1 MG NX IX q (some ⟨b, off, none⟩) n c zs (-1) out nx vm vn := by rw [hw0]; exact HE.out.drewN nq
  have g1 := cell_of_one h0.cq
  have g2 := h0.cp
  have g3 := cell_of_one h0.cm
  have g6 : w0.cell? ⟨b, off + q, none⟩ = some (.int .i32 x) := by rw [hw0]; exact f6
  have g7 : w0.cell? ⟨b, off + (q + 1), none⟩ = some (.int .i32 y) := by rw [hw0]; exact f7
  have gq := own_ne h0.om h0.cq (by decide)
  have gm := own_ne h0.om h0.cm (by decide)
  have gp : vm.ownBlock ≠ some P1 := fun e => by have := (h0.om.lt _ e).1; have := h0.p1; omega
  have gb : vm.ownBlock ≠ some b := fun e => by have := (h0.om.lt _ e).1; omega
  have lq := lt_of_block h0.cq
  have lm := lt_of_block h0.cm
  have lp : P1 < w0.heap.size := by have := h0.p1; have := h0.bQ; omega
  have lb : b < w0.heap.size := by have := h0.bQ; omega
  have hfa : ∀ o, (w0.alloc o).frozen? ⟨MG, 0, none⟩ = false := fun o => free_of_one ((Below.heap_alloc w0 o MG lm).trans h0.cm)
  have n1 := World.new_ne w0 _ g1
  have n2 := World.new_ne w0 _ g2
  have n3 := World.new_ne w0 _ g3
  have n6 := World.new_ne w0 _ g6
  have n7 := World.new_ne w0 _ g7
  rw [← hw0]
  have HW := Lib.hid hw0
  have H0 := Lib.hid h0
  clear f1 f2 f3 f5 f6 f7 hw0 h0 HE
  have hS : LoadsE MG P1 Q b off q n c vm x y w0.drew := ⟨g3, g2, g1, g6, g7⟩
  refine T_region 20 (LoadsE MG P1 Q b off q n c vm x y) (by kernel_rfl) ?_
  refine T_take (i := 0) (v := ?v0) rfl (by kernel_rfl) (by kernel_rfl) (fun _ _ _ h => h) (Or.inl ⟨by rfl, ?y0⟩) hS ?_
  case y0 => intro w' hSw; obtain ⟨s1, s2, s3, s4, s5⟩ := hSw; go_simp; try with_reducible rfl
  simp only [Act.put, List.setIfInBounds_toArray, List.set_cons_zero, List.set_cons_succ]
  refine T_take (i := 1) (v := ?v1) rfl (by kernel_rfl) (by kernel_rfl) (fun _ _ _ h => h) (Or.inl ⟨by rfl, ?y1⟩) hS ?_
  case y1 => intro w' hSw; obtain ⟨s1, s2, s3, s4, s5⟩ := hSw; go_simp; try with_reducible rfl
  simp only [Act.put, List.setIfInBounds_toArray, List.set_cons_zero, List.set_cons_succ]
  refine T_take (i := 2) (v := ?v2) rfl (by kernel_rfl) (by kernel_rfl) (fun _ _ _ h => h) (Or.inl ⟨by rfl, ?y2⟩) hS ?_
  case y2 => intro w' hSw; obtain ⟨s1, s2, s3, s4, s5⟩ := hSw; go_simp; try with_reducible rfl
  simp only [Act.put, List.setIfInBounds_toArray, List.set_cons_zero, List.set_cons_succ]
  refine T_take (i := 3) (v := ?v3) rfl (by kernel_rfl) (by kernel_rfl) (fun _ _ _ h => h) (Or.inl ⟨by rfl, ?y3⟩) hS ?_
  case y3 => intro w' hSw; obtain ⟨s1, s2, s3, s4, s5⟩ := hSw; go_simp; try with_reducible rfl
  simp only [Act.put, List.setIfInBounds_toArray, List.set_cons_zero, List.set_cons_succ]
  refine T_take (i := 4) (v := ?v4) rfl (by kernel_rfl) (by kernel_rfl) (fun _ _ _ h => h) (Or.inl ⟨by rfl, ?y4⟩) hS ?_
  case y4 => intro w' hSw; obtain ⟨s1, s2, s3, s4, s5⟩ := hSw; go_simp; try with_reducible rfl
  simp only [Act.put, List.setIfInBounds_toArray, List.set_cons_zero, List.set_cons_succ]
  refine T_take (i := 5) (v := ?v5) rfl (by kernel_rfl) (by kernel_rfl) (fun _ _ _ h => h) (Or.inl ⟨by rfl, ?y5⟩) hS ?_
  case y5 => intro w' hSw; obtain ⟨s1, s2, s3, s4, s5⟩ := hSw; go_simp; try with_reducible rfl
  simp only [Act.put, List.setIfInBounds_toArray, List.set_cons_zero, List.set_cons_succ]
  refine T_take (i := 6) (v := ?v6) rfl (by kernel_rfl) (by kernel_rfl) (fun _ _ _ h => h) (Or.inl ⟨by rfl, ?y6⟩) hS ?_
  case y6 => intro w' hSw; obtain ⟨s1, s2, s3, s4, s5⟩ := hSw; go_simp; try with_reducible rfl
  simp only [Act.put, List.setIfInBounds_toArray, List.set_cons_zero, List.set_cons_succ]
  refine T_take (i := 7) (v := ?v7) rfl (by kernel_rfl) (by kernel_rfl) (fun _ _ _ h => h) (Or.inl ⟨by rfl, ?y7⟩) hS ?_
  case y7 => intro w' hSw; obtain ⟨s1, s2, s3, s4, s5⟩ := hSw; go_simp; try with_reducible rfl
  simp only [Act.put, List.setIfInBounds_toArray, List.set_cons_zero, List.set_cons_succ]
  refine T_take (i := 8) (v := ?v8) rfl (by kernel_rfl) (by kernel_rfl) (fun _ _ _ h => h) (Or.inl ⟨by rfl, ?y8⟩) hS ?_
  case y8 => intro w' hSw; obtain ⟨s1, s2, s3, s4, s5⟩ := hSw; go_simp; try with_reducible rfl
  simp only [Act.put, List.setIfInBounds_toArray, List.set_cons_zero, List.set_cons_succ]
  refine T_take (i := 9) (v := ?v9) rfl (by kernel_rfl) (by kernel_rfl) (fun _ _ _ h => h) (Or.inl ⟨by rfl, ?y9⟩) hS ?_
  case y9 => intro w' hSw; obtain ⟨s1, s2, s3, s4, s5⟩ := hSw; go_simp; try with_reducible rfl
  simp only [Act.put, List.setIfInBounds_toArray, List.set_cons_zero, List.set_cons_succ]
  refine T_take (i := 10) (v := ?v10) rfl (by kernel_rfl) (by kernel_rfl) (fun _ _ _ h => h) (Or.inl ⟨by rfl, ?y10⟩) hS ?_
  case y10 => intro w' hSw; obtain ⟨s1, s2, s3, s4, s5⟩ := hSw; go_simp; try with_reducible rfl
  simp only [Act.put, List.setIfInBounds_toArray, List.set_cons_zero, List.set_cons_succ]
  refine T_take (i := 11) (v := ?v11) rfl (by kernel_rfl) (by kernel_rfl) (fun _ _ _ h => h) (Or.inl ⟨by rfl, ?y11⟩) hS ?_
  case y11 => intro w' hSw; obtain ⟨s1, s2, s3, s4, s5⟩ := hSw; go_simp; try with_reducible rfl
  simp only [Act.put, List.setIfInBounds_toArray, List.set_cons_zero, List.set_cons_succ]
  refine T_take (i := 12) (v := ?v12) rfl (by kernel_rfl) (by kernel_rfl) (fun _ _ _ h => h) (Or.inl ⟨by rfl, ?y12⟩) hS ?_
  case y12 => intro w' hSw; obtain ⟨s1, s2, s3, s4, s5⟩ := hSw; go_simp; try with_reducible rfl
  simp only [Act.put, List.setIfInBounds_toArray, List.set_cons_zero, List.set_cons_succ]
  refine T_take (i := 13) (v := ?v13) rfl (by kernel_rfl) (by kernel_rfl) (fun _ _ _ h => h) (Or.inl ⟨by rfl, ?y13⟩) hS ?_
  case y13 => intro w' hSw; obtain ⟨s1, s2, s3, s4, s5⟩ := hSw; go_simp; try with_reducible rfl
  simp only [Act.put, List.setIfInBounds_toArray, List.set_cons_zero, List.set_cons_succ]
  refine T_take (i := 14) (v := ?v14) rfl (by kernel_rfl) (by kernel_rfl) (fun _ _ _ h => h) (Or.inl ⟨by rfl, ?y14⟩) hS ?_
  case y14 => intro w' hSw; obtain ⟨s1, s2, s3, s4, s5⟩ := hSw; go_simp; try with_reducible rfl
  simp only [Act.put, List.setIfInBounds_toArray, List.set_cons_zero, List.set_cons_succ]
  refine T_take (i := 15) (v := ?v15) rfl (by kernel_rfl) (by kernel_rfl) (fun _ _ _ h => h) (Or.inl ⟨by rfl, ?y15⟩) hS ?_
  case y15 => intro w' hSw; obtain ⟨s1, s2, s3, s4, s5⟩ := hSw; go_simp; try with_reducible rfl
  simp only [Act.put, List.setIfInBounds_toArray, List.set_cons_zero, List.set_cons_succ]
  refine T_take (i := 16) (v := ?v16) rfl (by kernel_rfl) (by kernel_rfl) (fun _ _ _ h => h) (Or.inl ⟨by rfl, ?y16⟩) hS ?_
  case y16 => intro w' hSw; obtain ⟨s1, s2, s3, s4, s5⟩ := hSw; go_simp; try with_reducible rfl
  simp only [Act.put, List.setIfInBounds_toArray, List.set_cons_zero, List.set_cons_succ]
  refine T_take (i := 17) (v := ?v17) rfl (by kernel_rfl) (by kernel_rfl) (fun _ _ _ h => h) (Or.inl ⟨by rfl, ?y17⟩) hS ?_
  case y17 => intro w' hSw; obtain ⟨s1, s2, s3, s4, s5⟩ := hSw; go_simp; try with_reducible rfl
  simp only [Act.put, List.setIfInBounds_toArray, List.set_cons_zero, List.set_cons_succ]
  clear j1 j2 j3
  refine T_one (i := 18) (by kernel_rfl) rfl rfl (fun K hK => ?_)
  go_simp
  refine hK.out _ _ ?_ ?_
  · exact ⟨(World.cell?_alloc_lt w0 _ _ lm).trans g3, (World.cell?_alloc_lt w0 _ _ lp).trans g2, (World.cell?_alloc_lt w0 _ _ lq).trans g1, (World.cell?_alloc_lt w0 _ _ lb).trans g6, (World.cell?_alloc_lt w0 _ _ lb).trans g7⟩
  clear hK K hS
  try simp only [Act.put, List.setIfInBounds_toArray, List.set_cons_zero, List.set_cons_succ]
  refine T_one (i := 19) (by kernel_rfl) rfl rfl (fun K hK => ?_)
  refine wp_append_lies _ _ _ _ (by rfl) base 21 i0 (.int .i32 0) 1 4 Try.underlying22 hi hz0 hz1 hz2 rfl (by omega) vm out.length (out.map (Value.int .i32)) (by rfl) ((H0.out.drewN 1).alloc _).om
    ⟨w0.heap.size, 0, none⟩ 2 2 [.int .i32 x, .int .i32 y] (by rfl) (by rfl) (World.news_of_block (cs := #[.int .i32 x, .int .i32 y]) (t := 21) (fr := (0, 0)) (heap_alloc_new w0 _)) (by simp [Value.oneCell'])
    (by omega) (by unfold maxLen; omega) (by omega) (by have h1 := H0.out.bQ; simp; omega) (w0.heap.size + 1) (by simp) ?_
  intro g1v c1v w1 hown hgrow _ _
  refine hK.out _ _ ?_ ?_
  · exact ⟨(hgrow.cell_far ⟨MG, 0, none⟩ (by simp; omega) (Ne.symm gm)).trans ((World.cell?_alloc_lt w0 _ _ lm).trans g3), (hgrow.cell_far ⟨P1, 0, none⟩ (by simp; omega) (Ne.symm gp)).trans ((World.cell?_alloc_lt w0 _ _ lp).trans g2),
      (hgrow.cell_far ⟨Q, 0, none⟩ (by simp; omega) (Ne.symm gq)).trans ((World.cell?_alloc_lt w0 _ _ lq).trans g1), (hgrow.cell_far ⟨b, off + q, none⟩ (by simp; omega) (Ne.symm gb)).trans ((World.cell?_alloc_lt w0 _ _ lb).trans g6),
      (hgrow.cell_far ⟨b, off + (q + 1), none⟩ (by simp; omega) (Ne.symm gb)).trans ((World.cell?_alloc_lt w0 _ _ lb).trans g7)⟩
  clear hK K
  simp only [Act.put, List.setIfInBounds_toArray, List.set_cons_zero, List.set_cons_succ]
  have hfz : w1.frozen? ⟨MG, 0, none⟩ = false := (hgrow.frozen_far ⟨MG, 0, none⟩ (by simp; omega) (Ne.symm gm)).trans (hfa _)
  have hcm : w1.cell? ⟨MG, 0, none⟩ = some vm := (hgrow.cell_far ⟨MG, 0, none⟩ (by simp; omega) (Ne.symm gm)).trans ((World.cell?_alloc_lt w0 _ _ lm).trans g3)
  refine T_last (by kernel_rfl) (by kernel_rfl) rfl rfl (fun K hK => ?_)
  go_simp
  refine hK.out _ _ ?_
  clear hK K
  have h1 := ((H0.out.alloc _).drewN 1).putM (out' := out ++ [x, y]) hgrow (by simpa using hown)
  have e2 := h1.setQ (q + 2) (z := (q : Int) + 2) (by omega)
  have e3 := e2.setI 1
  obtain ⟨W1, hW1⟩ : ∃ W1, W1 = w1.setCell ⟨MG, 0, none⟩ (.slice (some ⟨g1v, 0, none⟩) (out.length + 2) c1v) := ⟨_, rfl⟩
  rw [← hW1] at h1 e2 e3 ⊢
  have a1 := cell_of_one h1.cq
  have a2 := free_of_one h1.cq
  have a3 := cell_of_one e2.ci
  have a4 := free_of_one e2.ci
  have a5 := cell_of_one e3.cn
  have HW1 := Lib.hid hW1
  have HG1 := Lib.hid hgrow
  have HO1 := Lib.hid hown
  have E3 := Lib.hid e3
  clear g1 g2 g3 g6 g7 gq gm gp gb lq lm lp lb hfa n1 n2 n3 n6 n7 hfz hcm hW1 hgrow hown e2 e3 h1
  go_wp2_with (at_builtin; refine wpList_append_lies _ rfl _ _ 25 rfl base 23 k0 (.int .u32 0) 1 4 Try.underlying25 ki kz0 kz1 kz2 rfl (by omega) vn nx.length (nx.map (Value.int .u32)) rfl (E3.out.alloc _).on ⟨W1.heap.size, 0, none⟩ 1 1 [.int .u32 pc] rfl rfl ?qa ?qb (by omega) ?qc ?qd ?qe _ rfl ?_)
  case qa => exact cells_one _ _ _ _ (by simp [World.setCell])
  case qb => intro u hu; simp at hu; subst hu; rfl
  case qc => unfold maxLen; omega
  case qd => omega
  case qe => have h1 := E3.out.bQ; have h2 := lt_of_block E3.out.cq; simp at h2 ⊢; omega
  intro g2v c2v w2 hown2 hgrow2 _ _
  have hnx2 : w2.heap[NX]? = some (.cells #[vn] 25 (0, 0)) :=
    (hgrow2.block NX (lt_of_block (E3.out.alloc _).cn) (fun e => own_ne (E3.out.alloc (.cells #[.int .u32 pc] 23)).on (E3.out.alloc (.cells #[.int .u32 pc] 23)).cn (by decide) e.symm)).trans (E3.out.alloc _).cn
  have b1 := cell_of_one hnx2
  have b2 := free_of_one hnx2
  rw [HW1.out] at hgrow2
  have HG2 := Lib.hid hgrow2
  have HO2 := Lib.hid hown2
  clear a1 a2 a3 a4 a5 hnx2 hgrow2 hown2
  go_wp2_with fail
  go_ret
  exact ⟨rfl, ext_done H0.out (by rw [HW.out]; exact (Frm.refl w _).drewN nq) HO1.out HG1.out (by omega) HO2.out HG2.out⟩

set_option maxRecDepth 100000 in
set_option maxHeartbeats 1600000 in
theorem ext_more {w : World} {base Q P1 MG NX IX : Nat} {q : Nat} {A : Option Addr} {n c : Nat} {zs : List Int} {out nx : List Int} {vn : Value} {g0 cap0 j : Nat} (h : Ext w base Q P1 MG NX IX q A n c zs (j : Int) out nx (.slice (some ⟨g0, 0, none⟩) out.length cap0) vn)
    (hq : q + 1 < n) (hn : n ≤ 1000) (ho : out.length ≤ 2000) (hnx : nx.length ≤ 2000) (pc : Int) (hj : j + 1 = out.length) (hj0 : 0 < j) (hgt : out.getD j 0 < zs.getD q 0) :
    Calls Try.prog 22 #[.pointer (some ⟨Q, 0, none⟩), .pointer (some ⟨P1, 0, none⟩), .int .u32 pc, .pointer (some ⟨IX, 0, none⟩), .pointer (some ⟨MG, 0, none⟩), .pointer (some ⟨NX, 0, none⟩)] w
      (ExtDone w base Q P1 MG NX IX (q + 2) A n c zs ((j : Int) + 2) (out ++ [zs.getD q 0, zs.getD (q + 1) 0]) (nx ++ [pc]) (.slice (some ⟨g0, 0, none⟩) out.length cap0) vn) := by
  obtain ⟨b, off, rfl, hb, hcz⟩ := h.rd.2 (by omega)
  obtain ⟨i0, hi, hz0, hz1, hz2⟩ := info_parts Try.info21
  obtain ⟨k0, ki, kz0, kz1, kz2⟩ := info_parts Try.info23
  have f1 := cell_of_one h.cq
  have f2 := h.cp
  have f3 := cell_of_one h.cm
  have f5 := cell_of_one h.ci
  have f8 := h.om.cellAt j (by omega)
  rw [List.getElem?_map, List.getElem?_eq_getElem (show j < out.length by omega), Option.map_some] at f8
  have e8 : out.getD j 0 = out[j] := by simp [List.getD, List.getElem?_eq_getElem (show j < out.length by omega)]
  rw [e8] at hgt
  clear e8
  obtain ⟨z, hz⟩ : ∃ z, z = out[j] := ⟨_, rfl⟩
  rw [← hz] at f8 hgt
  have f6 := hcz q (by omega)
  have f7 := hcz (q + 1) (by omega)
  obtain ⟨x, hx⟩ : ∃ x, x = zs.getD q 0 := ⟨_, rfl⟩
  obtain ⟨y, hy⟩ : ∃ y, y = zs.getD (q + 1) 0 := ⟨_, rfl⟩
  rw [← hx, ← hy]
  rw [← hx] at hgt
  rw [← hx] at f6
  rw [← hy] at f7
  have HE := Lib.hid h
  clear hx hy hcz h hz
  have k1 : (j : Int) < (out.length : Int) := by omega
  have k2 : decide (0 < j) = true := decide_eq_true hj0
  have k3 : decide (x ≤ z) = false := decide_eq_false (by omega)
  have i1 : (q : Int) < (n : Int) := by omega
  have i2 : (q : Int) + 1 < (n : Int) := by omega
  have j1 : IntKind.i64.wrap ((q : Int) + 1) = (q : Int) + 1 := IntWalk.i64_in _ (by omega)
  have j2 : (0 : Int) ≤ (q : Int) + 1 := by omega
  have j3 : ((q : Int) + 1).toNat = q + 1 := by omega
  go_enter Try.func22, Try.ntmps22
  go_wp2_with fail
  go_quiet (fail)
  clear k1 k2 k3 f8 hgt
  go_wp2_with fail
  obtain ⟨w0, hw0⟩ : ∃ w0, w0 = w.drewN nq := ⟨_, rfl⟩
  have h0 : Ext w0 base Q P1 MG NX IX q (some ⟨b, off, none⟩) n c zs (j : Int) out nx (.slice (some ⟨g0, 0, none⟩) out.length cap0) vn := by rw [hw0]; exact HE.out.drewN nq
  have g1 := cell_of_one h0.cq
  have g2 := h0.cp
  have g3 := cell_of_one h0.cm
  have g6 : w0.cell? ⟨b, off + q, none⟩ = some (.int .i32 x) := by rw [hw0]; exact f6
  have g7 : w0.cell? ⟨b, off + (q + 1), none⟩ = some (.int .i32 y) := by rw [hw0]; exact f7
  have gq := own_ne h0.om h0.cq (by decide)
  have gm := own_ne h0.om h0.cm (by decide)
  have gp : (Value.slice (some ⟨g0, 0, none⟩) out.length cap0).ownBlock ≠ some P1 := fun e => by have := (h0.om.lt _ e).1; have := h0.p1; omega
  have gb : (Value.slice (some ⟨g0, 0, none⟩) out.length cap0).ownBlock ≠ some b := fun e => by have := (h0.om.lt _ e).1; omega
  have lq := lt_of_block h0.cq
  have lm := lt_of_block h0.cm
  have lp : P1 < w0.heap.size := by have := h0.p1; have := h0.bQ; omega
  have lb : b < w0.heap.size := by have := h0.bQ; omega
  have hfa : ∀ o, (w0.alloc o).frozen? ⟨MG, 0, none⟩ = false := fun o => free_of_one ((Below.heap_alloc w0 o MG lm).trans h0.cm)
  have n1 := World.new_ne w0 _ g1
  have n2 := World.new_ne w0 _ g2
  have n3 := World.new_ne w0 _ g3
  have n6 := World.new_ne w0 _ g6
  have n7 := World.new_ne w0 _ g7
  rw [← hw0]
  have HW := Lib.hid hw0
  have H0 := Lib.hid h0
  clear f1 f2 f3 f5 f6 f7 hw0 h0 HE
  have hS : LoadsE MG P1 Q b off q n c ((.slice (some ⟨g0, 0, none⟩) out.length cap0)) x y w0.drew := ⟨g3, g2, g1, g6, g7⟩
  refine T_region 20 (LoadsE MG P1 Q b off q n c ((.slice (some ⟨g0, 0, none⟩) out.length cap0)) x y) (by kernel_rfl) ?_
  refine T_take (i := 0) (v := ?v0) rfl (by kernel_rfl) (by kernel_rfl) (fun _ _ _ h => h) (Or.inl ⟨by rfl, ?y0⟩) hS ?_
  case y0 => intro w' hSw; obtain ⟨s1, s2, s3, s4, s5⟩ := hSw; go_simp; try with_reducible rfl
  simp only [Act.put, List.setIfInBounds_toArray, List.set_cons_zero, List.set_cons_succ]
  refine T_take (i := 1) (v := ?v1) rfl (by kernel_rfl) (by kernel_rfl) (fun _ _ _ h => h) (Or.inl ⟨by rfl, ?y1⟩) hS ?_
  case y1 => intro w' hSw; obtain ⟨s1, s2, s3, s4, s5⟩ := hSw; go_simp; try with_reducible rfl
  simp only [Act.put, List.setIfInBounds_toArray, List.set_cons_zero, List.set_cons_succ]
  refine T_take (i := 2) (v := ?v2) rfl (by kernel_rfl) (by kernel_rfl) (fun _ _ _ h => h) (Or.inl ⟨by rfl, ?y2⟩) hS ?_
  case y2 => intro w' hSw; obtain ⟨s1, s2, s3, s4, s5⟩ := hSw; go_simp; try with_reducible rfl
  simp only [Act.put, List.setIfInBounds_toArray, List.set_cons_zero, List.set_cons_succ]
  refine T_take (i := 3) (v := ?v3) rfl (by kernel_rfl) (by kernel_rfl) (fun _ _ _ h => h) (Or.inl ⟨by rfl, ?y3⟩) hS ?_
  case y3 => intro w' hSw; obtain ⟨s1, s2, s3, s4, s5⟩ := hSw; go_simp; try with_reducible rfl
  simp only [Act.put, List.setIfInBounds_toArray, List.set_cons_zero, List.set_cons_succ]
  refine T_take (i := 4) (v := ?v4) rfl (by kernel_rfl) (by kernel_rfl) (fun _ _ _ h => h) (Or.inl ⟨by rfl, ?y4⟩) hS ?_
  case y4 => intro w' hSw; obtain ⟨s1, s2, s3, s4, s5⟩ := hSw; go_simp; try with_reducible rfl
  simp only [Act.put, List.setIfInBounds_toArray, List.set_cons_zero, List.set_cons_succ]
  refine T_take (i := 5) (v := ?v5) rfl (by kernel_rfl) (by kernel_rfl) (fun _ _ _ h => h) (Or.inl ⟨by rfl, ?y5⟩) hS ?_
  case y5 => intro w' hSw; obtain ⟨s1, s2, s3, s4, s5⟩ := hSw; go_simp; try with_reducible rfl
  simp only [Act.put, List.setIfInBounds_toArray, List.set_cons_zero, List.set_cons_succ]
  refine T_take (i := 6) (v := ?v6) rfl (by kernel_rfl) (by kernel_rfl) (fun _ _ _ h => h) (Or.inl ⟨by rfl, ?y6⟩) hS ?_
  case y6 => intro w' hSw; obtain ⟨s1, s2, s3, s4, s5⟩ := hSw; go_simp; try with_reducible rfl
  simp only [Act.put, List.setIfInBounds_toArray, List.set_cons_zero, List.set_cons_succ]
  refine T_take (i := 7) (v := ?v7) rfl (by kernel_rfl) (by kernel_rfl) (fun _ _ _ h => h) (Or.inl ⟨by rfl, ?y7⟩) hS ?_
  case y7 => intro w' hSw; obtain ⟨s1, s2, s3, s4, s5⟩ := hSw; go_simp; try with_reducible rfl
  simp only [Act.put, List.setIfInBounds_toArray, List.set_cons_zero, List.set_cons_succ]
  refine T_take (i := 8) (v := ?v8) rfl (by kernel_rfl) (by kernel_rfl) (fun _ _ _ h => h) (Or.inl ⟨by rfl, ?y8⟩) hS ?_
  case y8 => intro w' hSw; obtain ⟨s1, s2, s3, s4, s5⟩ := hSw; go_simp; try with_reducible rfl
  simp only [Act.put, List.setIfInBounds_toArray, List.set_cons_zero, List.set_cons_succ]
  refine T_take (i := 9) (v := ?v9) rfl (by kernel_rfl) (by kernel_rfl) (fun _ _ _ h => h) (Or.inl ⟨by rfl, ?y9⟩) hS ?_
  case y9 => intro w' hSw; obtain ⟨s1, s2, s3, s4, s5⟩ := hSw; go_simp; try with_reducible rfl
  simp only [Act.put, List.setIfInBounds_toArray, List.set_cons_zero, List.set_cons_succ]
  refine T_take (i := 10) (v := ?v10) rfl (by kernel_rfl) (by kernel_rfl) (fun _ _ _ h => h) (Or.inl ⟨by rfl, ?y10⟩) hS ?_
  case y10 => intro w' hSw; obtain ⟨s1, s2, s3, s4, s5⟩ := hSw; go_simp; try with_reducible rfl
  simp only [Act.put, List.setIfInBounds_toArray, List.set_cons_zero, List.set_cons_succ]
  refine T_take (i := 11) (v := ?v11) rfl (by kernel_rfl) (by kernel_rfl) (fun _ _ _ h => h) (Or.inl ⟨by rfl, ?y11⟩) hS ?_
  case y11 => intro w' hSw; obtain ⟨s1, s2, s3, s4, s5⟩ := hSw; go_simp; try with_reducible rfl
  simp only [Act.put, List.setIfInBounds_toArray, List.set_cons_zero, List.set_cons_succ]
  refine T_take (i := 12) (v := ?v12) rfl (by kernel_rfl) (by kernel_rfl) (fun _ _ _ h => h) (Or.inl ⟨by rfl, ?y12⟩) hS ?_
  case y12 => intro w' hSw; obtain ⟨s1, s2, s3, s4, s5⟩ := hSw; go_simp; try with_reducible rfl
  simp only [Act.put, List.setIfInBounds_toArray, List.set_cons_zero, List.set_cons_succ]
  refine T_take (i := 13) (v := ?v13) rfl (by kernel_rfl) (by kernel_rfl) (fun _ _ _ h => h) (Or.inl ⟨by rfl, ?y13⟩) hS ?_
  case y13 => intro w' hSw; obtain ⟨s1, s2, s3, s4, s5⟩ := hSw; go_simp; try with_reducible rfl
  simp only [Act.put, List.setIfInBounds_toArray, List.set_cons_zero, List.set_cons_succ]
  refine T_take (i := 14) (v := ?v14) rfl (by kernel_rfl) (by kernel_rfl) (fun _ _ _ h => h) (Or.inl ⟨by rfl, ?y14⟩) hS ?_
  case y14 => intro w' hSw; obtain ⟨s1, s2, s3, s4, s5⟩ := hSw; go_simp; try with_reducible rfl
  simp only [Act.put, List.setIfInBounds_toArray, List.set_cons_zero, List.set_cons_succ]
  refine T_take (i := 15) (v := ?v15) rfl (by kernel_rfl) (by kernel_rfl) (fun _ _ _ h => h) (Or.inl ⟨by rfl, ?y15⟩) hS ?_
  case y15 => intro w' hSw; obtain ⟨s1, s2, s3, s4, s5⟩ := hSw; go_simp; try with_reducible rfl
  simp only [Act.put, List.setIfInBounds_toArray, List.set_cons_zero, List.set_cons_succ]
  refine T_take (i := 16) (v := ?v16) rfl (by kernel_rfl) (by kernel_rfl) (fun _ _ _ h => h) (Or.inl ⟨by rfl, ?y16⟩) hS ?_
  case y16 => intro w' hSw; obtain ⟨s1, s2, s3, s4, s5⟩ := hSw; go_simp; try with_reducible rfl
  simp only [Act.put, List.setIfInBounds_toArray, List.set_cons_zero, List.set_cons_succ]
  refine T_take (i := 17) (v := ?v17) rfl (by kernel_rfl) (by kernel_rfl) (fun _ _ _ h => h) (Or.inl ⟨by rfl, ?y17⟩) hS ?_
  case y17 => intro w' hSw; obtain ⟨s1, s2, s3, s4, s5⟩ := hSw; go_simp; try with_reducible rfl
  simp only [Act.put, List.setIfInBounds_toArray, List.set_cons_zero, List.set_cons_succ]
  clear j1 j2 j3
  refine T_one (i := 18) (by kernel_rfl) rfl rfl (fun K hK => ?_)
  go_simp
  refine hK.out _ _ ?_ ?_
  · exact ⟨(World.cell?_alloc_lt w0 _ _ lm).trans g3, (World.cell?_alloc_lt w0 _ _ lp).trans g2, (World.cell?_alloc_lt w0 _ _ lq).trans g1, (World.cell?_alloc_lt w0 _ _ lb).trans g6, (World.cell?_alloc_lt w0 _ _ lb).trans g7⟩
  clear hK K hS
  try simp only [Act.put, List.setIfInBounds_toArray, List.set_cons_zero, List.set_cons_succ]
  refine T_one (i := 19) (by kernel_rfl) rfl rfl (fun K hK => ?_)
  refine wp_append_lies _ _ _ _ (by rfl) base 21 i0 (.int .i32 0) 1 4 Try.underlying22 hi hz0 hz1 hz2 rfl (by omega) ((.slice (some ⟨g0, 0, none⟩) out.length cap0)) out.length (out.map (Value.int .i32)) (by rfl) ((H0.out.drewN 1).alloc _).om
    ⟨w0.heap.size, 0, none⟩ 2 2 [.int .i32 x, .int .i32 y] (by rfl) (by rfl) (World.news_of_block (cs := #[.int .i32 x, .int .i32 y]) (t := 21) (fr := (0, 0)) (heap_alloc_new w0 _)) (by simp [Value.oneCell'])
    (by omega) (by unfold maxLen; omega) (by omega) (by have h1 := H0.out.bQ; simp; omega) (w0.heap.size + 1) (by simp) ?_
  intro g1v c1v w1 hown hgrow _ _
  refine hK.out _ _ ?_ ?_
  · exact ⟨(hgrow.cell_far ⟨MG, 0, none⟩ (by simp; omega) (Ne.symm gm)).trans ((World.cell?_alloc_lt w0 _ _ lm).trans g3), (hgrow.cell_far ⟨P1, 0, none⟩ (by simp; omega) (Ne.symm gp)).trans ((World.cell?_alloc_lt w0 _ _ lp).trans g2),
      (hgrow.cell_far ⟨Q, 0, none⟩ (by simp; omega) (Ne.symm gq)).trans ((World.cell?_alloc_lt w0 _ _ lq).trans g1), (hgrow.cell_far ⟨b, off + q, none⟩ (by simp; omega) (Ne.symm gb)).trans ((World.cell?_alloc_lt w0 _ _ lb).trans g6),
      (hgrow.cell_far ⟨b, off + (q + 1), none⟩ (by simp; omega) (Ne.symm gb)).trans ((World.cell?_alloc_lt w0 _ _ lb).trans g7)⟩
  clear hK K
  simp only [Act.put, List.setIfInBounds_toArray, List.set_cons_zero, List.set_cons_succ]
  have hfz : w1.frozen? ⟨MG, 0, none⟩ = false := (hgrow.frozen_far ⟨MG, 0, none⟩ (by simp; omega) (Ne.symm gm)).trans (hfa _)
  have hcm : w1.cell? ⟨MG, 0, none⟩ = some (.slice (some ⟨g0, 0, none⟩) out.length cap0) := (hgrow.cell_far ⟨MG, 0, none⟩ (by simp; omega) (Ne.symm gm)).trans ((World.cell?_alloc_lt w0 _ _ lm).trans g3)
  refine T_last (by kernel_rfl) (by kernel_rfl) rfl rfl (fun K hK => ?_)
  go_simp
  refine hK.out _ _ ?_
  clear hK K
  have h1 := ((H0.out.alloc _).drewN 1).putM (out' := out ++ [x, y]) hgrow (by simpa using hown)
  have e2 := h1.setQ (q + 2) (z := (q : Int) + 2) (by omega)
  have e3 := e2.setI ((j : Int) + 2)
  obtain ⟨W1, hW1⟩ : ∃ W1, W1 = w1.setCell ⟨MG, 0, none⟩ (.slice (some ⟨g1v, 0, none⟩) (out.length + 2) c1v) := ⟨_, rfl⟩
  rw [← hW1] at h1 e2 e3 ⊢
  have a1 := cell_of_one h1.cq
  have a2 := free_of_one h1.cq
  have a3 := cell_of_one e2.ci
  have a4 := free_of_one e2.ci
  have a5 := cell_of_one e3.cn
  have HW1 := Lib.hid hW1
  have HG1 := Lib.hid hgrow
  have HO1 := Lib.hid hown
  have E3 := Lib.hid e3
  clear g1 g2 g3 g6 g7 gq gm gp gb lq lm lp lb hfa n1 n2 n3 n6 n7 hfz hcm hW1 hgrow hown e2 e3 h1
  go_wp2_with (at_builtin; refine wpList_append_lies _ rfl _ _ 25 rfl base 23 k0 (.int .u32 0) 1 4 Try.underlying25 ki kz0 kz1 kz2 rfl (by omega) vn nx.length (nx.map (Value.int .u32)) rfl (E3.out.alloc _).on ⟨W1.heap.size, 0, none⟩ 1 1 [.int .u32 pc] rfl rfl ?qa ?qb (by omega) ?qc ?qd ?qe _ rfl ?_)
  case qa => exact cells_one _ _ _ _ (by simp [World.setCell])
  case qb => intro u hu; simp at hu; subst hu; rfl
  case qc => unfold maxLen; omega
  case qd => omega
  case qe => have h1 := E3.out.bQ; have h2 := lt_of_block E3.out.cq; simp at h2 ⊢; omega
  intro g2v c2v w2 hown2 hgrow2 _ _
  have hnx2 : w2.heap[NX]? = some (.cells #[vn] 25 (0, 0)) :=
    (hgrow2.block NX (lt_of_block (E3.out.alloc _).cn) (fun e => own_ne (E3.out.alloc (.cells #[.int .u32 pc] 23)).on (E3.out.alloc (.cells #[.int .u32 pc] 23)).cn (by decide) e.symm)).trans (E3.out.alloc _).cn
  have b1 := cell_of_one hnx2
  have b2 := free_of_one hnx2
  rw [HW1.out] at hgrow2
  have HG2 := Lib.hid hgrow2
  have HO2 := Lib.hid hown2
  clear a1 a2 a3 a4 a5 hnx2 hgrow2 hown2
  go_wp2_with fail
  go_ret
  exact ⟨rfl, ext_done H0.out (by rw [HW.out]; exact (Frm.refl w _).drewN nq) HO1.out HG1.out (by omega) HO2.out HG2.out⟩

set_option maxRecDepth 100000 in
set_option maxHeartbeats 1600000 in
/-- The last end is not below the pair's beginning: false; nothing has turned. -/
theorem ext_bar {w : World} {base Q P1 MG NX IX : Nat} {q : Nat} {A : Option Addr} {n c : Nat} {zs : List Int} {out nx : List Int} {vn : Value} {g0 cap0 j : Nat} (h : Ext w base Q P1 MG NX IX q A n c zs (j : Int) out nx (.slice (some ⟨g0, 0, none⟩) out.length cap0) vn)
    (hq : q + 1 < n) (hn : n ≤ 1000) (pc : Int) (hj : j + 1 = out.length) (hj0 : 0 < j) (hgt : zs.getD q 0 ≤ out.getD j 0) :
    Calls Try.prog 22 #[.pointer (some ⟨Q, 0, none⟩), .pointer (some ⟨P1, 0, none⟩), .int .u32 pc, .pointer (some ⟨IX, 0, none⟩), .pointer (some ⟨MG, 0, none⟩), .pointer (some ⟨NX, 0, none⟩)] w
      fun e w' => e = .returned (.bool false) ∧ ∃ m, w' = w.drewN m := by
  obtain ⟨b, off, rfl, hb, hcz⟩ := h.rd.2 (by omega)
  have f1 := cell_of_one h.cq
  have f2 := h.cp
  have f3 := cell_of_one h.cm
  have f5 := cell_of_one h.ci
  have f8 := h.om.cellAt j (by omega)
  rw [List.getElem?_map, List.getElem?_eq_getElem (show j < out.length by omega), Option.map_some] at f8
  have e8 : out.getD j 0 = out[j] := by simp [List.getD, List.getElem?_eq_getElem (show j < out.length by omega)]
  rw [e8] at hgt
  clear e8
  obtain ⟨z, hz⟩ : ∃ z, z = out[j] := ⟨_, rfl⟩
  rw [← hz] at f8 hgt
  have f6 := hcz q (by omega)
  obtain ⟨x, hx⟩ : ∃ x, x = zs.getD q 0 := ⟨_, rfl⟩
  rw [← hx] at hgt
  rw [← hx] at f6
  clear hx hcz h hz
  have i1 : (q : Int) < (n : Int) := by omega
  have k1 : (j : Int) < (out.length : Int) := by omega
  have k2 : decide (0 < j) = true := decide_eq_true hj0
  have k3 : decide (x ≤ z) = true := decide_eq_true (by omega)
  go_enter Try.func22, Try.ntmps22
  go_wp2_with fail
  go_quiet (fail)
  go_wp2_with fail
  go_ret
  exact ⟨rfl, ⟨_, rfl⟩⟩
end Go.Proofs.Ytlbfcahmmjmgjaa
