/- WORDS AND SMALL CONTRACTS for mergeRuneSets: memory at the head of each round; extend at either list; noRune, noNext; the deferred function. -/
import Derived.Test.YtlbfcahmmjmgjaaMgExt
import Derived.Test.YtlbfcahmmjmgjaaMgPlain
import Derived.Defers
import Derived.Deep.LoopGhost
namespace Go.Proofs.Ytlbfcahmmjmgjaa
open Go.RowKit

theorem and_one : ∀ k : Fin 501, (bits BinOp.and IntKind.i64 (k.val : Int) 1 == (k.val : Int) % 2) = true := by decide +kernel
theorem and_even (n : Nat) (h : n ≤ 500) (he : n % 2 = 0) : bits BinOp.and IntKind.i64 (n : Int) 1 = 0 := by
  have h1 := and_one ⟨n, by omega⟩
  simp only [beq_iff_eq] at h1
  rw [h1]; omega

theorem make_none22 (W : World) : (Instr.makeSlice 22 (.int .i64 0) (.int .i64 0)).run Try.prog W = .ok (.slice (some ⟨W.heap.size, 0, none⟩) 0 0) (W.alloc (.cells #[] 21)) := by
  obtain ⟨i0, hi, hz0, hz1, hz2⟩ := info_parts Try.info21
  have h := run_make (P := Try.prog) W 22 21 i0 (.int .i32 0) Try.underlying22 hi hz0 .i64 .i64 0 0 (by omega) (by omega) (by omega) (by omega)
  have e : ∀ z k, k = 0 → madeCells z k = #[] := fun z k hk => Array.eq_empty_of_size_eq_zero (by rw [size_madeCells, hk])
  rw [h, e _ _ (by simp)]
  rfl
theorem make_none25 (W : World) : (Instr.makeSlice 25 (.int .i64 0) (.int .i64 0)).run Try.prog W = .ok (.slice (some ⟨W.heap.size, 0, none⟩) 0 0) (W.alloc (.cells #[] 23)) := by
  obtain ⟨i0, hi, hz0, hz1, hz2⟩ := info_parts Try.info23
  have h := run_make (P := Try.prog) W 25 23 i0 (.int .u32 0) Try.underlying25 hi hz0 .i64 .i64 0 0 (by omega) (by omega) (by omega) (by omega)
  have e : ∀ z k, k = 0 → madeCells z k = #[] := fun z k hk => Array.eq_empty_of_size_eq_zero (by rw [size_madeCells, hk])
  rw [h, e _ _ (by simp)]
  rfl

/-- MEMORY at the head of each round: both counters, both lists, the gathered lists, ok, ix. -/
structure MInv (W w : World) (P1 P2 LX RX MG NX OK IX : Nat) (A1 A2 : Option Addr) (n m c c' : Nat) (L R : List Int) (lx rx : Nat) (out nx : List Int) (vm vn : Value) : Prop where
  el : Ext w W.heap.size LX P1 MG NX IX lx A1 n c L ((out.length : Int) - 1) out nx vm vn
  er : Ext w W.heap.size RX P2 MG NX IX rx A2 m c' R ((out.length : Int) - 1) out nx vm vn
  ok : w.heap[OK]? = some (.cells #[.bool true] 4 (0, 0))
  bel : Below W.heap.size W w
  lr : LX ≠ RX
  oB : W.heap.size ≤ OK
section
variable {W w w' : World} {P1 P2 LX RX MG NX OK IX : Nat} {A1 A2 : Option Addr} {n m c c' : Nat} {L R : List Int} {lx rx : Nat} {out nx out' nx' : List Int} {vm vn v1 v2 : Value}
theorem MInv.drewN (h : MInv W w P1 P2 LX RX MG NX OK IX A1 A2 n m c c' L R lx rx out nx vm vn) (k : Nat) : MInv W (w.drewN k) P1 P2 LX RX MG NX OK IX A1 A2 n m c c' L R lx rx out nx vm vn :=
  ⟨h.el.drewN k, h.er.drewN k, h.ok, below_drewN h.bel k, h.lr, h.oB⟩

/-- What one Ext's step leaves of the other's. -/
theorem Ext.beside {base Q Q' P P' q q' n n' c c' : Nat} {A A' : Option Addr} {zs zs' : List Int} {ix ix' : Int}
    (h : Ext w base Q P MG NX IX q A n c zs ix out nx vm vn) (k : Ext w' base Q' P' MG NX IX q' A' n' c' zs' ix' out' nx' v1 v2) (hQ : Q ≠ Q')
    (f : Frm w w' (Others Q' MG NX IX vm vn)) : Ext w' base Q P MG NX IX q A n c zs ix' out' nx' v1 v2 := by
  have low : ∀ b, b < base → w'.heap[b]? = w.heap[b]? := fun b hb => f.block b (by have := lt_of_block h.cq; have := h.bQ; omega)
    ⟨by have := k.bQ; omega, by have := h.bM; omega, by have := h.bN; omega, by have := h.bI; omega,
      fun e => by have := (h.om.lt b e).1; omega, fun e => by have := (h.on.lt b e).1; omega⟩
  exact ⟨(f.block Q (lt_of_block h.cq) ⟨hQ, h.qm, h.qn, h.qi, own_ne h.om h.cq (by decide), own_ne h.on h.cq (by decide)⟩).trans h.cq,
    (cell_old (low _ h.p1)).trans h.cp, h.rd.keep fun b _ hb => cell_old (low b hb), k.cm, k.om, k.cn, k.on, k.ci, h.p1, h.bQ, h.bM, h.bN, h.bI, h.qi⟩

theorem MInv.side (h : MInv W w P1 P2 LX RX MG NX OK IX A1 A2 n m c c' L R lx rx out nx vm vn) {Q : Nat} (hQ : Q = LX ∨ Q = RX) (f : Frm w w' (Others Q MG NX IX vm vn)) :
    w'.heap[OK]? = some (.cells #[.bool true] 4 (0, 0)) ∧ Below W.heap.size W w' := by
  have hQc : ∃ z : Int, w.heap[Q]? = some (.cells #[.int .i64 z] 3 (0, 0)) := by
    rcases hQ with rfl | rfl
    · exact ⟨_, h.el.cq⟩
    · exact ⟨_, h.er.cq⟩
  obtain ⟨z, hz⟩ := hQc
  have hQb : W.heap.size ≤ Q := by
    rcases hQ with rfl | rfl
    · exact h.el.bQ
    · exact h.er.bQ
  refine ⟨(f.block OK (lt_of_block h.ok) ⟨?_, ?_, ?_, ?_, own_ne h.el.om h.ok (by decide), own_ne h.el.on h.ok (by decide)⟩).trans h.ok, f.below h.bel h.bel.size fun k hk => ?_⟩
  · rintro rfl; have h1 := h.ok; rw [hz] at h1; simp at h1
  · rintro rfl; have h1 := h.ok; rw [h.el.cm] at h1; simp at h1
  · rintro rfl; have h1 := h.ok; rw [h.el.cn] at h1; simp at h1
  · rintro rfl; have h1 := h.ok; rw [h.el.ci] at h1; simp at h1
  · exact ⟨by omega, by have := h.el.bM; omega, by have := h.el.bN; omega, by have := h.el.bI; omega,
      fun e => by have := (h.el.om.lt k e).1; omega, fun e => by have := (h.el.on.lt k e).1; omega⟩

theorem MInv.left (h : MInv W w P1 P2 LX RX MG NX OK IX A1 A2 n m c c' L R lx rx out nx vm vn) (k : Ext w' W.heap.size LX P1 MG NX IX (lx + 2) A1 n c L ((out'.length : Int) - 1) out' nx' v1 v2)
    (f : Frm w w' (Others LX MG NX IX vm vn)) : MInv W w' P1 P2 LX RX MG NX OK IX A1 A2 n m c c' L R (lx + 2) rx out' nx' v1 v2 :=
  ⟨k, h.er.beside k h.lr.symm f, (h.side (.inl rfl) f).1, (h.side (.inl rfl) f).2, h.lr, h.oB⟩
theorem MInv.right (h : MInv W w P1 P2 LX RX MG NX OK IX A1 A2 n m c c' L R lx rx out nx vm vn) (k : Ext w' W.heap.size RX P2 MG NX IX (rx + 2) A2 m c' R ((out'.length : Int) - 1) out' nx' v1 v2)
    (f : Frm w w' (Others RX MG NX IX vm vn)) : MInv W w' P1 P2 LX RX MG NX OK IX A1 A2 n m c c' L R lx (rx + 2) out' nx' v1 v2 :=
  ⟨h.el.beside k h.lr f, k, (h.side (.inr rfl) f).1, (h.side (.inr rfl) f).2, h.lr, h.oB⟩

theorem Ext.far {base Q P q : Nat} {A : Option Addr} {zs : List Int} {ix : Int} (h : Ext w base Q P MG NX IX q A n c zs ix out nx vm vn) {u v : Value} (ho : w.heap[OK]? = some (.cells #[u] 4 (0, 0))) (hb : base ≤ OK) :
    Ext (w.setCell ⟨OK, 0, none⟩ v) base Q P MG NX IX q A n c zs ix out nx vm vn := by
  have ne : ∀ (k : Nat) (u' : Value) (t : TypeId), w.heap[k]? = some (.cells #[u'] t (0, 0)) → t ≠ 4 → k ≠ OK := by
    rintro k u' t hk ht rfl
    rw [ho] at hk; simp at hk; exact ht hk.2.symm
  exact ⟨(Below.heap_setCell w _ _ _ (ne _ _ _ h.cq (by decide))).trans h.cq, (cell_old (Below.heap_setCell w _ _ _ (show P ≠ OK by have := h.p1; omega))).trans h.cp,
    h.rd.keep fun b _ hb' => cell_old (Below.heap_setCell w _ _ _ (show b ≠ OK by omega)),
    (Below.heap_setCell w _ _ _ (ne _ _ _ h.cm (by decide))).trans h.cm, ownsRow_setCell_other h.om (own_ne h.om ho (by decide)) _,
    (Below.heap_setCell w _ _ _ (ne _ _ _ h.cn (by decide))).trans h.cn, ownsRow_setCell_other h.on (own_ne h.on ho (by decide)) _,
    (Below.heap_setCell w _ _ _ (ne _ _ _ h.ci (by decide))).trans h.ci, h.p1, h.bQ, h.bM, h.bN, h.bI, h.qi⟩
theorem MInv.setOk (h : MInv W w P1 P2 LX RX MG NX OK IX A1 A2 n m c c' L R lx rx out nx vm vn) : MInv W (w.setCell ⟨OK, 0, none⟩ (.bool true)) P1 P2 LX RX MG NX OK IX A1 A2 n m c c' L R lx rx out nx vm vn :=
  ⟨h.el.far h.ok h.oB, h.er.far h.ok h.oB, one_setCell h.ok, h.bel.setCell h.oB _, h.lr, h.oB⟩
end

/-! ### The small functions -/
set_option maxRecDepth 100000 in
theorem noRune_any (w : World) : Calls Try.prog 23 #[] w fun e w' => e = .returned (.slice (some ⟨w.heap.size, 0, none⟩) 0 0) ∧ w.alloc (.cells #[] 21) = w' := by
  go_enter Try.func23, Try.ntmps23
  go_wp2
  go_ret
  exact ⟨rfl, rfl⟩
set_option maxRecDepth 100000 in
theorem noNext_any (w : World) : Calls Try.prog 24 #[] w fun e w' => e = .returned (.slice (some ⟨w.heap.size, 0, none⟩) 1 1) ∧ w.alloc (.cells #[.int .u32 4294967295] 23) = w' := by
  go_enter Try.func24, Try.ntmps24
  go_wp2
  go_ret
  exact ⟨rfl, rfl⟩
set_option maxRecDepth 100000 in
theorem door_true (OK MG NX : Nat) (u : FrameMode) (w : World) (ho : w.cell? ⟨OK, 0, none⟩ = some (.bool true)) :
    CallsD Try.prog 21 #[.pointer (some ⟨OK, 0, none⟩), .pointer (some ⟨MG, 0, none⟩), .pointer (some ⟨NX, 0, none⟩)] u w fun e u' w' => u' = u ∧ (e = .returned (.tuple #[]) ∧ w' = w) := by
  go_enter_d Try.func21, Try.ntmps21
  go_wp2
  go_end0
  exact ⟨rfl, rfl⟩
set_option maxRecDepth 100000 in
theorem door_false (OK MG NX : Nat) (u : FrameMode) (w : World) (vm vn : Value) (ho : w.cell? ⟨OK, 0, none⟩ = some (.bool false)) (hm : w.cell? ⟨MG, 0, none⟩ = some vm) (hmz : w.frozen? ⟨MG, 0, none⟩ = false)
    (hn : (w.setCell ⟨MG, 0, none⟩ (.slice none 0 0)).cell? ⟨NX, 0, none⟩ = some vn) (hnz : (w.setCell ⟨MG, 0, none⟩ (.slice none 0 0)).frozen? ⟨NX, 0, none⟩ = false) :
    CallsD Try.prog 21 #[.pointer (some ⟨OK, 0, none⟩), .pointer (some ⟨MG, 0, none⟩), .pointer (some ⟨NX, 0, none⟩)] u w fun e u' w' => u' = u ∧ (e = .returned (.tuple #[]) ∧ w' = (w.setCell ⟨MG, 0, none⟩ (.slice none 0 0)).setCell ⟨NX, 0, none⟩ (.slice none 0 0)) := by
  go_enter_d Try.func21, Try.ntmps21
  go_wp2
  go_end0
  exact ⟨rfl, rfl⟩

/-! ### extend, at either list -/
theorem barred_nil (x : Int) : barred [] x = false := rfl
theorem barred_last (out : List Int) (j : Nat) (hj : j + 1 = out.length) (x : Int) : barred out x = decide (x ≤ out.getD j 0) := by
  have e : out.getLast? = some (out.getD j 0) := by
    rw [List.getLast?_eq_getElem?, show out.length - 1 = j by omega]
    simp [List.getD, List.getElem?_eq_getElem (show j < out.length by omega)]
  simp [barred, e]

/-- extend bars the pair: false, nothing has turned. -/
theorem ext_no {w : World} {base Q P1 MG NX IX : Nat} {q : Nat} {A : Option Addr} {n c : Nat} {zs : List Int} {out nx : List Int} {vm vn : Value} (h : Ext w base Q P1 MG NX IX q A n c zs ((out.length : Int) - 1) out nx vm vn)
    (hq : q + 1 < n) (hn : n ≤ 1000) (h2 : out.length % 2 = 0) (pc : Int) (hb : barred out (zs.getD q 0) = true) :
    Calls Try.prog 22 #[.pointer (some ⟨Q, 0, none⟩), .pointer (some ⟨P1, 0, none⟩), .int .u32 pc, .pointer (some ⟨IX, 0, none⟩), .pointer (some ⟨MG, 0, none⟩), .pointer (some ⟨NX, 0, none⟩)] w
      fun e w' => e = .returned (.bool false) ∧ ∃ m, w' = w.drewN m := by
  rcases Nat.eq_zero_or_pos out.length with h0 | h0
  · rw [List.eq_nil_of_length_eq_zero h0, barred_nil] at hb; cases hb
  · obtain ⟨j, hj⟩ : ∃ j, j + 1 = out.length := ⟨out.length - 1, by omega⟩
    rw [barred_last out j hj] at hb
    obtain ⟨g, cap, rfl, _, _⟩ := h.om.form h0
    rw [show ((out.length : Int) - 1) = (j : Int) by omega] at h
    exact ext_bar h hq hn pc hj (by omega) (of_decide_eq_true hb)
/-- extend puts the pair behind. -/
theorem ext_yes {w : World} {base Q P1 MG NX IX : Nat} {q : Nat} {A : Option Addr} {n c : Nat} {zs : List Int} {out nx : List Int} {vm vn : Value} (h : Ext w base Q P1 MG NX IX q A n c zs ((out.length : Int) - 1) out nx vm vn)
    (hq : q + 1 < n) (hn : n ≤ 1000) (h2 : out.length % 2 = 0) (ho : out.length ≤ 2000) (hnx : nx.length ≤ 2000) (pc : Int) (hb : barred out (zs.getD q 0) = false) :
    Calls Try.prog 22 #[.pointer (some ⟨Q, 0, none⟩), .pointer (some ⟨P1, 0, none⟩), .int .u32 pc, .pointer (some ⟨IX, 0, none⟩), .pointer (some ⟨MG, 0, none⟩), .pointer (some ⟨NX, 0, none⟩)] w
      (ExtDone w base Q P1 MG NX IX (q + 2) A n c zs (((out ++ [zs.getD q 0, zs.getD (q + 1) 0]).length : Int) - 1) (out ++ [zs.getD q 0, zs.getD (q + 1) 0]) (nx ++ [pc]) vm vn) := by
  rcases Nat.eq_zero_or_pos out.length with h0 | h0
  · obtain rfl := List.eq_nil_of_length_eq_zero h0
    exact ext_first h hq hn (by simp) hnx pc
  · obtain ⟨j, hj⟩ : ∃ j, j + 1 = out.length := ⟨out.length - 1, by omega⟩
    rw [barred_last out j hj] at hb
    obtain ⟨g, cap, rfl, _, _⟩ := h.om.form h0
    rw [show ((out.length : Int) - 1) = (j : Int) by omega] at h
    rw [List.length_append, show (((out.length + [zs.getD q 0, zs.getD (q + 1) 0].length : Nat) : Int) - 1) = (j : Int) + 2 by simp; omega]
    exact ext_more h hq hn ho hnx pc hj (by omega) (by have := of_decide_eq_false hb; omega)

end Go.Proofs.Ytlbfcahmmjmgjaa
