/- WORDS for mergeRuneSets: what its own function 'extend' meets in memory, and how each store, new block and append carries it on. No program. -/
import Derived.Test.YtlbfcahmmjmgjaaMgRead
import Derived.OneCell
namespace Go.Proofs.Ytlbfcahmmjmgjaa
open Go.RowKit

theorem own_ne {w : World} {base : Nat} {e : TypeId} {size n : Nat} {v : Value} {xs : List Value} {g : Nat} {t : TypeId} {cs : Array Value} {fr : Nat × Nat} (h : w.ownsRow base e size v n xs) (hg : w.heap[g]? = some (.cells cs t fr)) (hne : e ≠ t) : v.ownBlock ≠ some g := by
  rcases h.2 with ⟨rfl, _⟩ | ⟨g', cap, cur, rfl, _, hh, _⟩
  · simp [Value.ownBlock]
  · intro he
    have : g' = g := by simpa [Value.ownBlock] using he
    subst this
    rw [hh] at hg
    injection hg with hg
    injection hg with _ ht
    exact hne ht

/-- The blocks of which ok is told are as they were. -/
structure Frm (w w' : World) (ok : Nat → Prop) : Prop where
  os : w'.os = w.os
  tape : w'.tape = w.tape
  output : w'.output = w.output
  size : w.heap.size ≤ w'.heap.size
  block : ∀ k, k < w.heap.size → ok k → w'.heap[k]? = w.heap[k]?
section
variable {w w' w'' : World} {ok : Nat → Prop}
theorem Frm.refl (w : World) (ok : Nat → Prop) : Frm w w ok := ⟨rfl, rfl, rfl, Nat.le_refl _, fun _ _ _ => rfl⟩
theorem Frm.drewN (h : Frm w w' ok) (n : Nat) : Frm w (w'.drewN n) ok := ⟨h.os, h.tape, h.output, h.size, h.block⟩
theorem Frm.alloc (h : Frm w w' ok) (o : Obj) : Frm w (w'.alloc o) ok :=
  ⟨h.os, h.tape, h.output, Nat.le_trans h.size (by simp), fun k hk ho => (Below.heap_alloc w' o k (Nat.lt_of_lt_of_le hk h.size)).trans (h.block k hk ho)⟩
theorem Frm.setCell (h : Frm w w' ok) {p : Addr} (hp : ¬ ok p.block) (u : Value) : Frm w (w'.setCell p u) ok :=
  ⟨h.os, h.tape, h.output, by simpa [World.setCell] using h.size, fun k hk ho => (Below.heap_setCell w' p u k (fun e => hp (e ▸ ho))).trans (h.block k hk ho)⟩
theorem Frm.grown (h : Frm w w' ok) {row : Option Nat} (hg : w'.grownBy w'' row) (hr : ∀ k, row = some k → ¬ ok k) : Frm w w'' ok :=
  ⟨hg.os.trans h.os, hg.tape.trans h.tape, hg.output.trans h.output, Nat.le_trans h.size hg.size,
    fun k hk ho => (hg.block k (Nat.lt_of_lt_of_le hk h.size) (fun e => hr k e.symm ho)).trans (h.block k hk ho)⟩
theorem Frm.below (h : Frm w w' ok) {B : Nat} {W : World} (hb : Below B W w) (hB : B ≤ w.heap.size) (ho : ∀ k, k < B → ok k) : Below B W w' :=
  hb.trans ⟨h.os, h.tape, h.output, h.size, fun k hk => h.block k (Nat.lt_of_lt_of_le hk hB) (ho k hk)⟩
end

/-- WHAT extend MEETS: the pointed-at counter q of one list zs, the list itself, the place ix, the two gathered lists. Q: the counter's block; P1: the list's variable's block. -/
structure Ext (w : World) (base Q P1 MG NX IX : Nat) (q : Nat) (A : Option Addr) (n c : Nat) (zs : List Int) (ix : Int) (out nx : List Int) (vm vn : Value) : Prop where
  cq : w.heap[Q]? = some (.cells #[.int .i64 (q : Int)] 3 (0, 0))
  cp : w.cell? ⟨P1, 0, none⟩ = some (.slice A n c)
  rd : Rd .i32 w base A n zs
  cm : w.heap[MG]? = some (.cells #[vm] 22 (0, 0))
  om : w.ownsRow base 21 1 vm out.length (out.map (Value.int .i32))
  cn : w.heap[NX]? = some (.cells #[vn] 25 (0, 0))
  on : w.ownsRow base 23 1 vn nx.length (nx.map (Value.int .u32))
  ci : w.heap[IX]? = some (.cells #[.int .i64 ix] 3 (0, 0))
  p1 : P1 < base
  bQ : base ≤ Q
  bM : base ≤ MG
  bN : base ≤ NX
  bI : base ≤ IX
  qi : Q ≠ IX

section
variable {w w' : World} {base Q P1 MG NX IX q q' n c : Nat} {A : Option Addr} {zs out nx out' nx' : List Int} {ix ix' : Int} {vm vn v' : Value}
theorem Ext.qm (h : Ext w base Q P1 MG NX IX q A n c zs ix out nx vm vn) : Q ≠ MG := by
  rintro rfl; have h1 := h.cq; rw [h.cm] at h1; simp at h1
theorem Ext.qn (h : Ext w base Q P1 MG NX IX q A n c zs ix out nx vm vn) : Q ≠ NX := by
  rintro rfl; have h1 := h.cq; rw [h.cn] at h1; simp at h1
theorem Ext.im (h : Ext w base Q P1 MG NX IX q A n c zs ix out nx vm vn) : IX ≠ MG := by
  rintro rfl; have h1 := h.ci; rw [h.cm] at h1; simp at h1
theorem Ext.inn (h : Ext w base Q P1 MG NX IX q A n c zs ix out nx vm vn) : IX ≠ NX := by
  rintro rfl; have h1 := h.ci; rw [h.cn] at h1; simp at h1
theorem Ext.mn (h : Ext w base Q P1 MG NX IX q A n c zs ix out nx vm vn) : MG ≠ NX := by
  rintro rfl; have h1 := h.cm; rw [h.cn] at h1; simp at h1

theorem Ext.drewN (h : Ext w base Q P1 MG NX IX q A n c zs ix out nx vm vn) (m : Nat) : Ext (w.drewN m) base Q P1 MG NX IX q A n c zs ix out nx vm vn :=
  ⟨h.cq, h.cp, h.rd, h.cm, h.om, h.cn, h.on, h.ci, h.p1, h.bQ, h.bM, h.bN, h.bI, h.qi⟩
theorem cell_old {w w' : World} {b o : Nat} (h : w'.heap[b]? = w.heap[b]?) : w'.cell? ⟨b, o, none⟩ = w.cell? ⟨b, o, none⟩ := World.cell?_of_block (a := ⟨b, o, none⟩) h
theorem Ext.alloc (h : Ext w base Q P1 MG NX IX q A n c zs ix out nx vm vn) (o : Obj) : Ext (w.alloc o) base Q P1 MG NX IX q A n c zs ix out nx vm vn :=
  ⟨(Below.heap_alloc w o _ (lt_of_block h.cq)).trans h.cq, (cell_old (Below.heap_alloc w o _ (World.block_lt_of_cell? _ _ h.cp))).trans h.cp,
    h.rd.keep fun b _ hb => cell_old (Below.heap_alloc w o _ (by have := lt_of_block h.cq; have := h.bQ; omega)),
    (Below.heap_alloc w o _ (lt_of_block h.cm)).trans h.cm, h.om.alloc _, (Below.heap_alloc w o _ (lt_of_block h.cn)).trans h.cn, h.on.alloc _,
    (Below.heap_alloc w o _ (lt_of_block h.ci)).trans h.ci, h.p1, h.bQ, h.bM, h.bN, h.bI, h.qi⟩
theorem Ext.setQ (h : Ext w base Q P1 MG NX IX q A n c zs ix out nx vm vn) (q' : Nat) {z : Int} (hz : z = (q' : Int)) : Ext (w.setCell ⟨Q, 0, none⟩ (.int .i64 z)) base Q P1 MG NX IX q' A n c zs ix out nx vm vn :=
  ⟨by rw [hz]; exact one_setCell h.cq, (cell_old (Below.heap_setCell w _ _ _ (show P1 ≠ Q by have := h.p1; have := h.bQ; omega))).trans h.cp,
    h.rd.keep fun b _ hb => cell_old (Below.heap_setCell w _ _ _ (show b ≠ Q by have := h.bQ; omega)),
    (Below.heap_setCell w _ _ _ h.qm.symm).trans h.cm, ownsRow_setCell_other h.om (own_ne h.om h.cq (by decide)) _,
    (Below.heap_setCell w _ _ _ h.qn.symm).trans h.cn, ownsRow_setCell_other h.on (own_ne h.on h.cq (by decide)) _,
    (Below.heap_setCell w _ _ _ h.qi.symm).trans h.ci, h.p1, h.bQ, h.bM, h.bN, h.bI, h.qi⟩
theorem Ext.setI (h : Ext w base Q P1 MG NX IX q A n c zs ix out nx vm vn) (ix' : Int) : Ext (w.setCell ⟨IX, 0, none⟩ (.int .i64 ix')) base Q P1 MG NX IX q A n c zs ix' out nx vm vn :=
  ⟨(Below.heap_setCell w _ _ _ h.qi).trans h.cq, (cell_old (Below.heap_setCell w _ _ _ (show P1 ≠ IX by have := h.p1; have := h.bI; omega))).trans h.cp,
    h.rd.keep fun b _ hb => cell_old (Below.heap_setCell w _ _ _ (show b ≠ IX by have := h.bI; omega)),
    (Below.heap_setCell w _ _ _ h.im.symm).trans h.cm, ownsRow_setCell_other h.om (own_ne h.om h.ci (by decide)) _,
    (Below.heap_setCell w _ _ _ h.inn.symm).trans h.cn, ownsRow_setCell_other h.on (own_ne h.on h.ci (by decide)) _,
    one_setCell h.ci, h.p1, h.bQ, h.bM, h.bN, h.bI, h.qi⟩
/-- 'merged = append(merged, ..)': the append, then the store. -/
theorem Ext.putM (h : Ext w base Q P1 MG NX IX q A n c zs ix out nx vm vn) (hg : w.grownBy w' vm.ownBlock) (ho : w'.ownsRow base 21 1 v' out'.length (out'.map (Value.int .i32))) :
    Ext (w'.setCell ⟨MG, 0, none⟩ v') base Q P1 MG NX IX q A n c zs ix out' nx v' vn := by
  have e : ∀ (g : Nat) (cs : Array Value) (t : TypeId) (fr : Nat × Nat), w.heap[g]? = some (Obj.cells cs t fr) → (21 : TypeId) ≠ t → w'.heap[g]? = some (Obj.cells cs t fr) := fun g cs t fr hgg ht =>
    (hg.block g (lt_of_block hgg) (fun e => own_ne h.om hgg ht e.symm)).trans hgg
  have lo : ∀ b, b < base → w'.heap[b]? = w.heap[b]? := fun b hb => hg.block b (by have := lt_of_block h.cq; have := h.bQ; omega) (fun e => by have := (h.om.lt b e.symm).1; omega)
  have hm : w'.heap[MG]? = some (.cells #[vm] 22 (0, 0)) := e _ _ _ _ h.cm (by decide)
  have hon : w'.ownsRow base 23 1 vn nx.length (nx.map (Value.int .u32)) := h.on.kept hg (by
    rcases h.on.2 with ⟨rfl, _⟩ | ⟨g', cap, cur, rfl, _, hh, _⟩
    · exact .inl rfl
    · exact .inr (fun e2 => own_ne h.om hh (by decide) e2.symm))
  exact ⟨(Below.heap_setCell w' _ _ _ h.qm).trans (e _ _ _ _ h.cq (by decide)), ((cell_old (Below.heap_setCell w' _ _ _ (show P1 ≠ MG by have := h.p1; have := h.bM; omega))).trans (cell_old (lo _ h.p1))).trans h.cp,
    h.rd.keep fun b _ hb => (cell_old (Below.heap_setCell w' _ _ _ (show b ≠ MG by have := h.bM; omega))).trans (cell_old (lo b hb)),
    one_setCell hm, ownsRow_setCell_other ho (own_ne ho hm (by decide)) _,
    (Below.heap_setCell w' _ _ _ h.mn.symm).trans (e _ _ _ _ h.cn (by decide)), ownsRow_setCell_other hon (own_ne hon hm (by decide)) _,
    (Below.heap_setCell w' _ _ _ h.im).trans (e _ _ _ _ h.ci (by decide)), h.p1, h.bQ, h.bM, h.bN, h.bI, h.qi⟩
/-- 'next = append(next, ..)': the append, then the store. -/
theorem Ext.putN (h : Ext w base Q P1 MG NX IX q A n c zs ix out nx vm vn) (hg : w.grownBy w' vn.ownBlock) (ho : w'.ownsRow base 23 1 v' nx'.length (nx'.map (Value.int .u32))) :
    Ext (w'.setCell ⟨NX, 0, none⟩ v') base Q P1 MG NX IX q A n c zs ix out nx' vm v' := by
  have e : ∀ (g : Nat) (cs : Array Value) (t : TypeId) (fr : Nat × Nat), w.heap[g]? = some (Obj.cells cs t fr) → (23 : TypeId) ≠ t → w'.heap[g]? = some (Obj.cells cs t fr) := fun g cs t fr hgg ht =>
    (hg.block g (lt_of_block hgg) (fun e => own_ne h.on hgg ht e.symm)).trans hgg
  have lo : ∀ b, b < base → w'.heap[b]? = w.heap[b]? := fun b hb => hg.block b (by have := lt_of_block h.cq; have := h.bQ; omega) (fun e => by have := (h.on.lt b e.symm).1; omega)
  have hm : w'.heap[NX]? = some (.cells #[vn] 25 (0, 0)) := e _ _ _ _ h.cn (by decide)
  have hom : w'.ownsRow base 21 1 vm out.length (out.map (Value.int .i32)) := h.om.kept hg (by
    rcases h.om.2 with ⟨rfl, _⟩ | ⟨g', cap, cur, rfl, _, hh, _⟩
    · exact .inl rfl
    · exact .inr (fun e2 => own_ne h.on hh (by decide) e2.symm))
  exact ⟨(Below.heap_setCell w' _ _ _ h.qn).trans (e _ _ _ _ h.cq (by decide)), ((cell_old (Below.heap_setCell w' _ _ _ (show P1 ≠ NX by have := h.p1; have := h.bN; omega))).trans (cell_old (lo _ h.p1))).trans h.cp,
    h.rd.keep fun b _ hb => (cell_old (Below.heap_setCell w' _ _ _ (show b ≠ NX by have := h.bN; omega))).trans (cell_old (lo b hb)),
    (Below.heap_setCell w' _ _ _ h.mn).trans (e _ _ _ _ h.cm (by decide)), ownsRow_setCell_other hom (own_ne hom hm (by decide)) _,
    one_setCell hm, ownsRow_setCell_other ho (own_ne ho hm (by decide)) _,
    (Below.heap_setCell w' _ _ _ h.inn).trans (e _ _ _ _ h.ci (by decide)), h.p1, h.bQ, h.bM, h.bN, h.bI, h.qi⟩
end
end Go.Proofs.Ytlbfcahmmjmgjaa
