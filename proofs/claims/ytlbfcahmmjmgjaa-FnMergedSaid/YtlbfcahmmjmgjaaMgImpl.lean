/- THE WALKS of ZZMergeRuneSets and impl.Merged: each gives the merge; of what was there nothing has turned. Conditions: even lengths, at most 500 each. -/
import Derived.Test.YtlbfcahmmjmgjaaMgMerge
namespace Go.Proofs.Ytlbfcahmmjmgjaa
open Go.RowKit

set_option maxRecDepth 100000 in
set_option maxHeartbeats 1600000 in
theorem zz_any (A1 A2 : Option Addr) (n m c c' : Nat) (L R : List Int) (a b : Int) (w : World) (hn : n ≤ 500) (hm : m ≤ 500) (hne : n % 2 = 0) (hme : m % 2 = 0)
    (h1 : Rd .i32 w w.heap.size A1 n L) (h2 : Rd .i32 w w.heap.size A2 m R) :
    Calls Try.prog 13 #[.slice A1 n c, .slice A2 m c', .int .u32 a, .int .u32 b] w (MergeGives (mg a b (n + m) L R [] []) w) := by
  have hb : Below w.heap.size w ((w.alloc (.cells #[.slice A1 n c] 22)).alloc (.cells #[.slice A2 m c'] 22)) := ((Below.refl _ _).alloc (Nat.le_refl _) _).alloc (by simp) _
  have e1 : ((w.alloc (.cells #[.slice A1 n c] 22)).alloc (.cells #[.slice A2 m c'] 22)).cell? ⟨w.heap.size, 0, none⟩ = some (.slice A1 n c) :=
    cell_of_one ((Below.heap_alloc _ _ _ (by simp)).trans (heap_alloc_new w _))
  have hs : (w.alloc (.cells #[.slice A1 n c] 22)).heap.size = w.heap.size + 1 := by simp
  have e2 : ((w.alloc (.cells #[.slice A1 n c] 22)).alloc (.cells #[.slice A2 m c'] 22)).cell? ⟨w.heap.size + 1, 0, none⟩ = some (.slice A2 m c') :=
    cell_of_one (by rw [← hs]; exact heap_alloc_new _ _)
  have H := merge_any (w.heap.size) (w.heap.size + 1) A1 A2 n m c c' L R a b _ hn hm hne hme e1 e2 ((h1.below hb).more hb.size) ((h2.below hb).more hb.size)
  have HH := Lib.hid H
  have HB := Lib.hid hb
  clear H hb e1 e2 hs h1 h2
  go_enter Try.func13, Try.ntmps13
  go_wp2_with fail
  refine HH.out.mono ?_
  rintro e w' ⟨hbel, A, cc, A', cc', rfl, r1, r2⟩
  have HR1 := Lib.hid r1
  have HR2 := Lib.hid r2
  have HBB := Lib.hid (HB.out.trans (hbel.mono HB.out.size))
  clear r1 r2 hbel
  go_wp2_with fail
  go_ret2
  exact ⟨HBB.out, A, cc, A', cc', rfl, HR1.out, HR2.out⟩

theorem Rd.none_zero {k : IntKind} {w : World} {B n : Nat} {A : Option Addr} {zs : List Int} (h : Rd k w B A n zs) : A = none → n = 0 := by
  rintro rfl
  rcases Nat.eq_zero_or_pos n with h0 | h0
  · exact h0
  · obtain ⟨b, off, e, _⟩ := h.2 h0
    cases e

theorem mg_len (a b : Int) : ∀ (f : Nat) (l r out nx : List Int) (o x : List Int), mg a b f l r out nx = some (o, x) → o.length ≤ out.length + l.length + r.length ∧ x.length ≤ nx.length + l.length + r.length
  | 0, l, r, out, nx, o, x, h => by
    simp only [mg, Option.some.injEq, Prod.mk.injEq] at h
    obtain ⟨rfl, rfl⟩ := h; omega
  | f + 1, u :: v :: l, [], out, nx, o, x, h => by
    simp only [mg] at h
    split at h
    · cases h
    · have := mg_len a b f _ _ _ _ _ _ h; simp at this ⊢; omega
  | f + 1, [], u :: v :: r, out, nx, o, x, h => by
    simp only [mg] at h
    split at h
    · cases h
    · have := mg_len a b f _ _ _ _ _ _ h; simp at this ⊢; omega
  | f + 1, u :: v :: l, s :: t :: r, out, nx, o, x, h => by
    simp only [mg] at h
    split at h
    · split at h
      · cases h
      · have := mg_len a b f _ _ _ _ _ _ h; simp at this ⊢; omega
    · split at h
      · cases h
      · have := mg_len a b f _ _ _ _ _ _ h; simp at this ⊢; omega
  | f + 1, [], [], out, nx, o, x, h => by
    simp only [mg, Option.some.injEq, Prod.mk.injEq] at h
    obtain ⟨rfl, rfl⟩ := h; omega
  | f + 1, [u], r, out, nx, o, x, h => by
    cases r with
    | nil => simp only [mg, Option.some.injEq, Prod.mk.injEq] at h; obtain ⟨rfl, rfl⟩ := h; omega
    | cons s r => cases r <;> (simp only [mg, Option.some.injEq, Prod.mk.injEq] at h; obtain ⟨rfl, rfl⟩ := h; omega)
  | f + 1, [], [s], out, nx, o, x, h => by
    simp only [mg, Option.some.injEq, Prod.mk.injEq] at h
    obtain ⟨rfl, rfl⟩ := h; omega
  | f + 1, u :: v :: l, [s], out, nx, o, x, h => by
    simp only [mg, Option.some.injEq, Prod.mk.injEq] at h
    obtain ⟨rfl, rfl⟩ := h; omega
theorem ans_len (a b : Int) (n m : Nat) (L R : List Int) (hL : L.length = n) (hR : R.length = m) (hn : n ≤ 500) (hm : m ≤ 500) :
    (ansOf (mg a b (n + m) L R [] [])).1.length ≤ 1000 ∧ (ansOf (mg a b (n + m) L R [] [])).2.length ≤ 1000 := by
  cases h : mg a b (n + m) L R [] [] with
  | none => simp [ansOf]
  | some p =>
    obtain ⟨o, x⟩ := p
    have := mg_len a b _ _ _ _ _ _ _ h
    simp [ansOf] at this ⊢; omega

set_option maxRecDepth 100000 in
set_option maxHeartbeats 1600000 in
theorem merged_any (A1 A2 : Option Addr) (n m c c' : Nat) (L R : List Int) (a b : Int) (w : World) (hn : n ≤ 500) (hm : m ≤ 500) (hne : n % 2 = 0) (hme : m % 2 = 0)
    (h1 : Rd .i32 w w.heap.size A1 n L) (h2 : Rd .i32 w w.heap.size A2 m R) :
    Calls Try.prog 6 #[.slice A1 n c, .slice A2 m c', .int .u32 a, .int .u32 b] w (MergeGives (mg a b (n + m) L R [] []) w) := by
  have H1 := Lib.hid h1
  have H2 := Lib.hid h2
  clear h1 h2
  go_enter Try.func6, Try.ntmps6
  go_wp2_with fail
  refine (clone32_any A1 n c L w (by omega) H1.out.none_zero H1.out).mono ?_
  rintro e w1 ⟨B1, d1, rfl, _, r1, b1⟩
  have R1 := Lib.hid r1
  have Q1 := Lib.hid b1
  clear r1 b1
  go_wp2_with fail
  refine (clone32_any A2 m c' R w1 (by omega) H2.out.none_zero ((H2.out.below Q1.out).more Q1.out.size)).mono ?_
  rintro e w2 ⟨B2, d2, rfl, _, r2, b2⟩
  have R2 := Lib.hid r2
  have Q2 := Lib.hid b2
  clear r2 b2
  go_wp2_with fail
  have hln := Lib.hid H1.out.1
  have hlm := Lib.hid H2.out.1
  refine (zz_any B1 B2 L.length R.length d1 d2 L R a b w2 (by have := hln.out; omega) (by have := hlm.out; omega) (by have := hln.out; omega) (by have := hlm.out; omega) ((R1.out.below Q2.out).more Q2.out.size) R2.out).mono ?_
  rw [hln.out, hlm.out]
  obtain ⟨T, hT⟩ : ∃ T, T = mg a b (n + m) L R [] [] := ⟨_, rfl⟩
  have hl := ans_len a b n m L R H1.out.1 H2.out.1 hn hm
  rw [← hT] at hl ⊢
  obtain ⟨hl1, hl2⟩ := hl
  have HT := Lib.hid hT
  clear hT
  rintro e w3 ⟨b3, B3, d3, B4, d4, rfl, r3, r4⟩
  have R3 := Lib.hid r3
  have R4 := Lib.hid r4
  have Q3 := Lib.hid b3
  clear r3 r4 b3
  go_wp2_with fail
  refine (clone32_any B3 _ d3 (ansOf T).1 w3 hl1 R3.out.none_zero R3.out).mono ?_
  rintro e w4 ⟨B5, d5, rfl, _, r5, b5⟩
  have R5 := Lib.hid r5
  have Q5 := Lib.hid b5
  clear r5 b5
  go_wp2_with fail
  refine (cloneU_any B4 _ d4 (ansOf T).2 w4 hl2 R4.out.none_zero ((R4.out.below Q5.out).more Q5.out.size)).mono ?_
  rintro e w5 ⟨B6, d6, rfl, _, r6, b6⟩
  have R6 := Lib.hid r6
  have Q6 := Lib.hid b6
  clear r6 b6
  have s1 := Q1.out.size
  have s2 := Q2.out.size
  have s3 := Q3.out.size
  have s5 := Q5.out.size
  have QQ := Lib.hid ((((Q1.out.trans (Q2.out.mono s1)).trans (Q3.out.mono (by omega))).trans (Q5.out.mono (by omega))).trans (Q6.out.mono (by omega)))
  clear s1 s2 s3 s5
  go_wp2_with fail
  go_ret2
  rw [← HT.out]
  exact ⟨QQ.out, B5, d5, B6, d6, rfl, (R5.out.below Q6.out).more Q6.out.size, R6.out⟩
end Go.Proofs.Ytlbfcahmmjmgjaa
