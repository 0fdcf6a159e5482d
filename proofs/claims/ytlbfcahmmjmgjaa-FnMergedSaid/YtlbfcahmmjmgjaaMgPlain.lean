/- PLAIN LISTS for FnMerged: pairs in a row, where a rune lies among them, two lists that meet, the merge of two lists; and what the merge of two ascending lists is. No program. -/
namespace Go.Proofs.Ytlbfcahmmjmgjaa

def strangeB (x : Int) : Bool := decide (x < 0) || decide (1114111 < x) || (decide (55296 ≤ x) && decide (x < 57344))
/-- Pairs, ascending behind p. -/
def sorted : Option Int → List Int → Bool
  | p, x :: y :: l => decide (x ≤ y) && (match p with | none => true | some q => decide (q < x)) && sorted (some y) l
  | _, _ => true
def pairsOk (l : List Int) : Bool := decide (l.length % 2 = 0) && decide (l.length ≤ 16) && !(l.any strangeB) && sorted none l
def meet1 (x y : Int) : List Int → Bool
  | u :: v :: l => (decide (x ≤ v) && decide (u ≤ y)) || meet1 x y l
  | _ => false
def meet : List Int → List Int → Bool
  | x :: y :: l, B => meet1 x y B || meet l B
  | _, _ => false
/-- Which pair r lies in, counted from k; -1 where in none. -/
def pof (r : Int) : List Int → Int → Int
  | x :: y :: l, k => if x ≤ r ∧ r ≤ y then k else pof r l (k + 1)
  | _, _ => -1
/-- Is the next pair barred by the last one? -/
def barred (out : List Int) (x : Int) : Bool := match out.getLast? with | none => false | some z => decide (x ≤ z)
/-- The merge, by steps. -/
def mg (a b : Int) : Nat → List Int → List Int → List Int → List Int → Option (List Int × List Int)
  | f + 1, x :: y :: l, [], out, nx => if barred out x then none else mg a b f l [] (out ++ [x, y]) (nx ++ [a])
  | f + 1, [], u :: v :: r, out, nx => if barred out u then none else mg a b f [] r (out ++ [u, v]) (nx ++ [b])
  | f + 1, x :: y :: l, u :: v :: r, out, nx =>
    if u < x then (if barred out u then none else mg a b f (x :: y :: l) r (out ++ [u, v]) (nx ++ [b]))
    else (if barred out x then none else mg a b f l (u :: v :: r) (out ++ [x, y]) (nx ++ [a]))
  | _, _, _, out, nx => some (out, nx)

/-! ### Pairs as pairs -/
def flat : List (Int × Int) → List Int
  | [] => []
  | (x, y) :: l => x :: y :: flat l
theorem flat_of : ∀ (n : Nat) (l : List Int), l.length = 2 * n → ∃ P : List (Int × Int), l = flat P ∧ P.length = n
  | 0, l, h => ⟨[], List.eq_nil_of_length_eq_zero (by omega), rfl⟩
  | n + 1, l, h => by
    match l, h with
    | x :: y :: l, h =>
      obtain ⟨P, rfl, hP⟩ := flat_of n l (by simp at h; omega)
      exact ⟨(x, y) :: P, rfl, by simp [hP]⟩
theorem flat_length : ∀ P : List (Int × Int), (flat P).length = 2 * P.length
  | [] => rfl
  | (x, y) :: l => by simp [flat, flat_length l]; omega
theorem flat_append : ∀ P Q : List (Int × Int), flat (P ++ Q) = flat P ++ flat Q
  | [], Q => rfl
  | (x, y) :: l, Q => by simp [flat, flat_append l Q]
theorem flat_at : ∀ (P : List (Int × Int)) (i : Nat), (flat P).getD (2 * i) 0 = (P.getD i (0, 0)).1 ∧ (flat P).getD (2 * i + 1) 0 = (P.getD i (0, 0)).2
  | [], i => by simp [flat]
  | (x, y) :: l, 0 => by simp [flat]
  | (x, y) :: l, i + 1 => by
    have h := flat_at l i
    simp only [flat, show 2 * (i + 1) = 2 * i + 1 + 1 by omega, List.getD_cons_succ]
    exact h

def covers (r : Int) (p : Int × Int) : Prop := p.1 ≤ r ∧ r ≤ p.2
def over (p q : Int × Int) : Prop := p.1 ≤ q.2 ∧ q.1 ≤ p.2

theorem pof_none (r : Int) : ∀ (P : List (Int × Int)) (k : Int), (∀ p ∈ P, ¬ covers r p) → pof r (flat P) k = -1
  | [], k, _ => rfl
  | (x, y) :: l, k, h => by
    simp only [flat, pof]
    rw [if_neg (show ¬ (x ≤ r ∧ r ≤ y) from h (x, y) (by simp))]
    exact pof_none r l _ fun p hp => h p (by simp [hp])
theorem pof_some (r : Int) : ∀ (P : List (Int × Int)) (k : Int), (∃ p ∈ P, covers r p) → ∃ i : Nat, i < P.length ∧ pof r (flat P) k = k + i ∧ covers r (P.getD i (0, 0))
  | [], k, h => by obtain ⟨p, hp, _⟩ := h; cases hp
  | (x, y) :: l, k, h => by
    simp only [flat, pof]
    by_cases hc : x ≤ r ∧ r ≤ y
    · rw [if_pos hc]; exact ⟨0, by simp, by simp, hc⟩
    · rw [if_neg hc]
      obtain ⟨i, hi, he, hcov⟩ := pof_some r l (k + 1) (by
        obtain ⟨p, hp, hcp⟩ := h
        rcases List.mem_cons.1 hp with rfl | hp
        · exact absurd hcp hc
        · exact ⟨p, hp, hcp⟩)
      exact ⟨i + 1, by simp; omega, by rw [he]; simp; omega, by simpa using hcov⟩
theorem pof_neg (r : Int) (P : List (Int × Int)) : pof r (flat P) 0 < 0 ↔ ∀ p ∈ P, ¬ covers r p := by
  constructor
  · intro h p hp hc
    obtain ⟨i, _, he, _⟩ := pof_some r P 0 ⟨p, hp, hc⟩
    omega
  · intro h
    rw [pof_none r P 0 h]; omega

theorem meet1_iff (x y : Int) : ∀ Q : List (Int × Int), meet1 x y (flat Q) = true ↔ ∃ q ∈ Q, over (x, y) q
  | [] => by simp [flat, meet1]
  | (u, v) :: l => by
    simp only [flat, meet1, Bool.or_eq_true, Bool.and_eq_true, decide_eq_true_eq, meet1_iff x y l, List.mem_cons]
    constructor
    · rintro (h | ⟨q, hq, h⟩)
      · exact ⟨(u, v), .inl rfl, h⟩
      · exact ⟨q, .inr hq, h⟩
    · rintro ⟨q, rfl | hq, h⟩
      · exact .inl h
      · exact .inr ⟨q, hq, h⟩
theorem meet_iff (Q : List (Int × Int)) : ∀ P : List (Int × Int), meet (flat P) (flat Q) = true ↔ ∃ p ∈ P, ∃ q ∈ Q, over p q
  | [] => by simp [flat, meet]
  | (x, y) :: l => by
    simp only [flat, meet, Bool.or_eq_true, meet1_iff, meet_iff Q l, List.mem_cons]
    constructor
    · rintro (⟨q, hq, h⟩ | ⟨p, hp, h⟩)
      · exact ⟨(x, y), .inl rfl, q, hq, h⟩
      · exact ⟨p, .inr hp, h⟩
    · rintro ⟨p, rfl | hp, h⟩
      · exact .inl h
      · exact .inr ⟨p, hp, h⟩

/-- Ascending behind p. -/
def asc : Option Int → List (Int × Int) → Prop
  | _, [] => True
  | p, (x, y) :: l => x ≤ y ∧ (∀ q, p = some q → q < x) ∧ asc (some y) l
theorem sorted_iff : ∀ (P : List (Int × Int)) (p : Option Int), sorted p (flat P) = true → asc p P
  | [], _, _ => trivial
  | (x, y) :: l, p, h => by
    simp only [flat, sorted, Bool.and_eq_true, decide_eq_true_eq] at h
    refine ⟨h.1.1, fun q hq => ?_, sorted_iff l (some y) h.2⟩
    subst hq
    simpa using h.1.2

/-! ### The merge on pairs -/
abbrev Tagged := (Int × Int) × Bool
def blk (e : Option (Int × Int)) (x : Int) : Bool := match e with | none => false | some z => decide (x ≤ z.2)
/-- The merge: what comes behind the pair e. -/
def mp : Nat → List (Int × Int) → List (Int × Int) → Option (Int × Int) → Option (List Tagged)
  | f + 1, x :: l, [], e => if blk e x.1 then none else (mp f l [] (some x)).map ((x, true) :: ·)
  | f + 1, [], u :: r, e => if blk e u.1 then none else (mp f [] r (some u)).map ((u, false) :: ·)
  | f + 1, x :: l, u :: r, e =>
    if u.1 < x.1 then (if blk e u.1 then none else (mp f (x :: l) r (some u)).map ((u, false) :: ·))
    else (if blk e x.1 then none else (mp f l (u :: r) (some x)).map ((x, true) :: ·))
  | _, _, _, _ => some []

def tagOf (a b : Int) (t : Tagged) : Int := if t.2 then a else b

theorem barred_snoc (out : List Int) (x y z : Int) : barred (out ++ [x, y]) z = blk (some (x, y)) z := by
  have : out ++ [x, y] = (out ++ [x]) ++ [y] := by simp
  rw [this]
  unfold barred blk
  rw [List.getLast?_concat]

theorem mg_mp (a b : Int) : ∀ (f : Nat) (l r : List (Int × Int)) (e : Option (Int × Int)) (out nx : List Int), (∀ z, barred out z = blk e z) →
    mg a b f (flat l) (flat r) out nx = (mp f l r e).map fun Q => (out ++ flat (Q.map (·.1)), nx ++ Q.map (tagOf a b))
  | 0, l, r, e, out, nx, _ => by simp [mg, mp, flat]
  | f + 1, [], [], e, out, nx, _ => by simp [mg, mp, flat]
  | f + 1, (x, y) :: l, [], e, out, nx, h => by
    have ih := mg_mp a b f l [] (some (x, y)) (out ++ [x, y]) (nx ++ [a]) (barred_snoc out x y)
    simp only [flat] at ih ⊢
    simp only [mg, mp, h]
    split
    · rfl
    · rw [ih]; cases mp f l [] (some (x, y)) <;> simp [flat, tagOf]
  | f + 1, [], (u, v) :: r, e, out, nx, h => by
    have ih := mg_mp a b f [] r (some (u, v)) (out ++ [u, v]) (nx ++ [b]) (barred_snoc out u v)
    simp only [flat] at ih ⊢
    simp only [mg, mp, h]
    split
    · rfl
    · rw [ih]; cases mp f [] r (some (u, v)) <;> simp [flat, tagOf]
  | f + 1, (x, y) :: l, (u, v) :: r, e, out, nx, h => by
    have ih1 := mg_mp a b f ((x, y) :: l) r (some (u, v)) (out ++ [u, v]) (nx ++ [b]) (barred_snoc out u v)
    have ih2 := mg_mp a b f l ((u, v) :: r) (some (x, y)) (out ++ [x, y]) (nx ++ [a]) (barred_snoc out x y)
    simp only [flat] at ih1 ih2 ⊢
    simp only [mg, mp, h]
    by_cases c : u < x
    · rw [if_pos c, if_pos c]
      split
      · rfl
      · rw [ih1]; cases mp f ((x, y) :: l) r (some (u, v)) <;> simp [flat, tagOf]
    · rw [if_neg c, if_neg c]
      split
      · rfl
      · rw [ih2]; cases mp f l ((u, v) :: r) (some (x, y)) <;> simp [flat, tagOf]

/-- What stands in the merge: just the two lists, each pair with its list; as many. -/
theorem mp_mem : ∀ (f : Nat) (l r : List (Int × Int)) (e : Option (Int × Int)) (Q : List Tagged), l.length + r.length ≤ f → mp f l r e = some Q →
    (∀ p, (p, true) ∈ Q ↔ p ∈ l) ∧ (∀ p, (p, false) ∈ Q ↔ p ∈ r) ∧ Q.length = l.length + r.length
  | f, [], [], e, Q, _, h => by
    have : Q = [] := by cases f <;> simp [mp] at h <;> exact h
    subst this; simp
  | 0, x :: l, r, e, Q, hf, h => by simp at hf
  | 0, l, x :: r, e, Q, hf, h => by simp at hf
  | f + 1, x :: l, [], e, Q, hf, h => by
    simp only [mp] at h
    split at h
    · cases h
    · obtain ⟨Q', h', rfl⟩ := Option.map_eq_some_iff.1 h
      obtain ⟨h1, h2, h3⟩ := mp_mem f l [] (some x) Q' (by simp at hf ⊢; omega) h'
      refine ⟨fun p => ?_, fun p => ?_, ?_⟩
      · simp [h1]
      · simp [h2]
      · simp [h3]
  | f + 1, [], u :: r, e, Q, hf, h => by
    simp only [mp] at h
    split at h
    · cases h
    · obtain ⟨Q', h', rfl⟩ := Option.map_eq_some_iff.1 h
      obtain ⟨h1, h2, h3⟩ := mp_mem f [] r (some u) Q' (by simp at hf ⊢; omega) h'
      refine ⟨fun p => ?_, fun p => ?_, ?_⟩
      · simp [h1]
      · simp [h2]
      · simp [h3]
  | f + 1, x :: l, u :: r, e, Q, hf, h => by
    simp only [mp] at h
    split at h
    · split at h
      · cases h
      · obtain ⟨Q', h', rfl⟩ := Option.map_eq_some_iff.1 h
        obtain ⟨h1, h2, h3⟩ := mp_mem f (x :: l) r (some u) Q' (by simp at hf ⊢; omega) h'
        refine ⟨fun p => ?_, fun p => ?_, ?_⟩
        · simp [h1]
        · simp [h2]
        · simp [h3]; omega
    · split at h
      · cases h
      · obtain ⟨Q', h', rfl⟩ := Option.map_eq_some_iff.1 h
        obtain ⟨h1, h2, h3⟩ := mp_mem f l (u :: r) (some x) Q' (by simp at hf ⊢; omega) h'
        refine ⟨fun p => ?_, fun p => ?_, ?_⟩
        · simp [h1]
        · simp [h2]
        · simp [h3]; omega

theorem asc_tail {p : Option Int} {x : Int × Int} {l : List (Int × Int)} (h : asc p (x :: l)) : asc (some x.2) l := h.2.2
theorem asc_none {p : Option Int} : ∀ {l : List (Int × Int)}, asc p l → asc none l
  | [], _ => trivial
  | _ :: _, h => ⟨h.1, fun _ hq => (by cases hq), h.2.2⟩
theorem not_blk {e : Option (Int × Int)} {x : Int} (h : ¬ blk e x = true) : ∀ q, e.map (·.2) = some q → q < x := by
  intro q hq
  obtain ⟨z, rfl, rfl⟩ := Option.map_eq_some_iff.1 hq
  simpa [blk] using h

/-- The merge is ascending. -/
theorem mp_asc : ∀ (f : Nat) (l r : List (Int × Int)) (e : Option (Int × Int)) (Q : List Tagged), (∀ x ∈ l, x.1 ≤ x.2) → (∀ x ∈ r, x.1 ≤ x.2) → mp f l r e = some Q → asc (e.map (·.2)) (Q.map (·.1))
  | 0, l, r, e, Q, _, _, h => by
    have : Q = [] := by cases l <;> cases r <;> simp [mp] at h <;> exact h
    subst this; trivial
  | f + 1, [], [], e, Q, _, _, h => by
    have : Q = [] := by simp [mp] at h; exact h
    subst this; trivial
  | f + 1, x :: l, [], e, Q, hl, hr, h => by
    simp only [mp] at h
    split at h
    · cases h
    · rename_i hb
      obtain ⟨Q', h', rfl⟩ := Option.map_eq_some_iff.1 h
      exact ⟨hl x (by simp), not_blk hb, mp_asc f l [] (some x) Q' (fun y hy => hl y (by simp [hy])) hr h'⟩
  | f + 1, [], u :: r, e, Q, hl, hr, h => by
    simp only [mp] at h
    split at h
    · cases h
    · rename_i hb
      obtain ⟨Q', h', rfl⟩ := Option.map_eq_some_iff.1 h
      exact ⟨hr u (by simp), not_blk hb, mp_asc f [] r (some u) Q' hl (fun y hy => hr y (by simp [hy])) h'⟩
  | f + 1, x :: l, u :: r, e, Q, hl, hr, h => by
    simp only [mp] at h
    split at h
    · split at h
      · cases h
      · rename_i hb
        obtain ⟨Q', h', rfl⟩ := Option.map_eq_some_iff.1 h
        exact ⟨hr u (by simp), not_blk hb, mp_asc f (x :: l) r (some u) Q' hl (fun y hy => hr y (by simp [hy])) h'⟩
    · split at h
      · cases h
      · rename_i hb
        obtain ⟨Q', h', rfl⟩ := Option.map_eq_some_iff.1 h
        exact ⟨hl x (by simp), not_blk hb, mp_asc f l (u :: r) (some x) Q' (fun y hy => hl y (by simp [hy])) hr h'⟩

theorem asc_le : ∀ {l : List (Int × Int)} {p : Option Int}, asc p l → ∀ x ∈ l, x.1 ≤ x.2
  | [], _, _, _, hx => by cases hx
  | y :: l, p, h, x, hx => by
    rcases List.mem_cons.1 hx with rfl | hx
    · exact h.1
    · exact asc_le h.2.2 x hx
theorem asc_lt : ∀ {l : List (Int × Int)} {q : Int}, asc (some q) l → ∀ x ∈ l, q < x.1
  | [], _, _, _, hx => by cases hx
  | y :: l, q, h, x, hx => by
    rcases List.mem_cons.1 hx with rfl | hx
    · exact h.2.1 q rfl
    · have := asc_lt h.2.2 x hx
      have := h.2.1 q rfl
      have := h.1
      omega

/-- Where the merge falls, a pair of one list meets one of the other, or the pair ahead meets one of the list that it does not come from. t: is the pair ahead of the left list? -/
theorem mp_none : ∀ (f : Nat) (l r : List (Int × Int)) (e : Option (Int × Int)) (t : Bool), asc none l → asc none r →
    (∀ z, e = some z → z.1 ≤ z.2 ∧ (t = true → (∀ x ∈ l, z.2 < x.1) ∧ ∀ u ∈ r, z.1 ≤ u.1) ∧ (t = false → (∀ u ∈ r, z.2 < u.1) ∧ ∀ x ∈ l, z.1 ≤ x.1)) →
    mp f l r e = none → (∃ x ∈ l, ∃ u ∈ r, over x u) ∨ (∃ z, e = some z ∧ ((t = true ∧ ∃ u ∈ r, over z u) ∨ (t = false ∧ ∃ x ∈ l, over x z)))
  | 0, l, r, e, t, _, _, _, h => by cases l <;> cases r <;> simp [mp] at h
  | f + 1, [], [], e, t, _, _, _, h => by simp [mp] at h
  | f + 1, x :: l, [], e, t, hl, hr, he, h => by
    simp only [mp] at h
    split at h
    · rename_i hb
      cases e with
      | none => simp [blk] at hb
      | some z =>
        have hz : x.1 ≤ z.2 := by simpa [blk] using hb
        obtain ⟨hzz, h1, h2⟩ := he z rfl
        cases t with
        | true => have := (h1 rfl).1 x (by simp); omega
        | false =>
          have := (h2 rfl).2 x (by simp)
          exact .inr ⟨z, rfl, .inr ⟨rfl, x, by simp, hz, by have := hl.1; omega⟩⟩
    · have h' : mp f l [] (some x) = none := by simpa using h
      have hx := hl.1
      rcases mp_none f l [] (some x) true (asc_none hl.2.2) trivial (fun z hz => by
        obtain rfl := Option.some.inj hz
        exact ⟨hx, fun _ => ⟨asc_lt hl.2.2, fun u hu => by cases hu⟩, fun h => by cases h⟩) h' with ⟨_, _, u, hu, _⟩ | ⟨z, _, ⟨_, u, hu, _⟩ | ⟨h0, _⟩⟩
      · cases hu
      · cases hu
      · cases h0
  | f + 1, [], u :: r, e, t, hl, hr, he, h => by
    simp only [mp] at h
    split at h
    · rename_i hb
      cases e with
      | none => simp [blk] at hb
      | some z =>
        have hz : u.1 ≤ z.2 := by simpa [blk] using hb
        obtain ⟨hzz, h1, h2⟩ := he z rfl
        cases t with
        | false => have := (h2 rfl).1 u (by simp); omega
        | true =>
          have := (h1 rfl).2 u (by simp)
          exact .inr ⟨z, rfl, .inl ⟨rfl, u, by simp, by have := hr.1; omega, hz⟩⟩
    · have h' : mp f [] r (some u) = none := by simpa using h
      have hx := hr.1
      rcases mp_none f [] r (some u) false trivial (asc_none hr.2.2) (fun z hz => by
        obtain rfl := Option.some.inj hz
        exact ⟨hx, fun h => (by cases h), fun _ => ⟨asc_lt hr.2.2, fun u hu => by cases hu⟩⟩) h' with ⟨x, hx, _⟩ | ⟨z, _, ⟨h0, _⟩ | ⟨_, x, hx, _⟩⟩
      · cases hx
      · cases h0
      · cases hx
  | f + 1, x :: l, u :: r, e, t, hl, hr, he, h => by
    have hx := hl.1
    have hu := hr.1
    simp only [mp] at h
    split at h
    · rename_i hc
      split at h
      · rename_i hb
        cases e with
        | none => simp [blk] at hb
        | some z =>
          have hz : u.1 ≤ z.2 := by simpa [blk] using hb
          obtain ⟨hzz, h1, h2⟩ := he z rfl
          cases t with
          | false => have := (h2 rfl).1 u (by simp); omega
          | true =>
            have := (h1 rfl).2 u (by simp)
            exact .inr ⟨z, rfl, .inl ⟨rfl, u, by simp, by omega, hz⟩⟩
      · have h' : mp f (x :: l) r (some u) = none := by simpa using h
        rcases mp_none f (x :: l) r (some u) false hl (asc_none hr.2.2) (fun z hz => by
          obtain rfl := Option.some.inj hz
          refine ⟨hu, fun h => (by cases h), fun _ => ⟨asc_lt hr.2.2, fun y hy => ?_⟩⟩
          rcases List.mem_cons.1 hy with rfl | hy
          · omega
          · have := asc_lt hl.2.2 y hy; omega) h' with ⟨y, hy, w, hw, ho⟩ | ⟨z, hz, ⟨h0, _⟩ | ⟨_, y, hy, ho⟩⟩
        · exact .inl ⟨y, hy, w, by simp [hw], ho⟩
        · cases h0
        · obtain rfl := Option.some.inj hz
          exact .inl ⟨y, hy, u, by simp, ho⟩
    · rename_i hc
      split at h
      · rename_i hb
        cases e with
        | none => simp [blk] at hb
        | some z =>
          have hz : x.1 ≤ z.2 := by simpa [blk] using hb
          obtain ⟨hzz, h1, h2⟩ := he z rfl
          cases t with
          | true => have := (h1 rfl).1 x (by simp); omega
          | false =>
            have := (h2 rfl).2 x (by simp)
            exact .inr ⟨z, rfl, .inr ⟨rfl, x, by simp, hz, by omega⟩⟩
      · have h' : mp f l (u :: r) (some x) = none := by simpa using h
        rcases mp_none f l (u :: r) (some x) true (asc_none hl.2.2) hr (fun z hz => by
          obtain rfl := Option.some.inj hz
          refine ⟨hx, fun _ => ⟨asc_lt hl.2.2, fun y hy => ?_⟩, fun h => (by cases h)⟩
          rcases List.mem_cons.1 hy with rfl | hy
          · omega
          · have := asc_lt hr.2.2 y hy; omega) h' with ⟨y, hy, w, hw, ho⟩ | ⟨z, hz, ⟨_, y, hy, ho⟩ | ⟨h0, _⟩⟩
        · exact .inl ⟨y, by simp [hy], w, hw, ho⟩
        · obtain rfl := Option.some.inj hz
          exact .inl ⟨x, by simp, y, hy, ho⟩
        · cases h0

/-- Of an ascending list two pairs that meet are one, at one place. -/
theorem asc_apart : ∀ (Q : List Tagged) (p : Option Int), asc p (Q.map (·.1)) → ∀ s ∈ Q, ∀ t ∈ Q, over s.1 t.1 → s = t
  | [], _, _, _, hs, _, _, _ => by cases hs
  | q :: Q, p, h, s, hs, t, ht, ho => by
    have htail : asc (some q.1.2) (Q.map (·.1)) := h.2.2
    rcases List.mem_cons.1 hs with rfl | hs1
    · rcases List.mem_cons.1 ht with rfl | ht1
      · rfl
      · have := asc_lt htail t.1 (List.mem_map_of_mem ht1)
        have := ho.2
        omega
    · rcases List.mem_cons.1 ht with rfl | ht1
      · have := asc_lt htail s.1 (List.mem_map_of_mem hs1)
        have := ho.1
        omega
      · exact asc_apart Q _ htail s hs1 t ht1 ho
/-- From pair to pair the beginning stands above the end ahead. -/
theorem asc_steps : ∀ (P : List (Int × Int)) (p : Option Int), asc p P → ∀ i, i + 1 < P.length → (P.getD i (0, 0)).2 < (P.getD (i + 1) (0, 0)).1
  | [], _, _, i, hi => by simp at hi
  | [x], _, _, i, hi => by simp at hi
  | x :: y :: l, p, h, 0, _ => by simpa using h.2.2.2.1 x.2 rfl
  | x :: y :: l, p, h, i + 1, hi => by
    have := asc_steps (y :: l) _ h.2.2 i (by simpa using hi)
    simpa using this

/-! ### The law -/
theorem getD_map_of {α β : Type} (g : α → β) (Q : List α) (k : Nat) (hk : k < Q.length) (d : α) (d' : β) : (Q.map g).getD k d' = g (Q.getD k d) := by
  simp [List.getD, List.getElem?_eq_getElem hk]
theorem getD_mem {α : Type} (Q : List α) (k : Nat) (hk : k < Q.length) (d : α) : Q.getD k d ∈ Q := by
  simp [List.getD, List.getElem?_eq_getElem hk]

/-- What the law asks of the merge of L and R, at a rune r. -/
structure MergeLaw (L R : List Int) (a b r : Int) (out nx : List Int) : Prop where
  apart : meet L R = false
  len : out.length = 2 * nx.length
  sum : out.length = L.length + R.length
  up : ∀ i, 1 ≤ i → 2 * i < out.length → out.getD (2 * i - 1) 0 < out.getD (2 * i) 0
  left : 0 ≤ pof r L 0 → ∃ k : Nat, pof r out 0 = k ∧ k < nx.length ∧ nx.getD k 0 = a
  right : pof r L 0 < 0 → 0 ≤ pof r R 0 → ∃ k : Nat, pof r out 0 = k ∧ k < nx.length ∧ nx.getD k 0 = b
  neither : pof r L 0 < 0 → pof r R 0 < 0 → pof r out 0 < 0

theorem pairs_of (L : List Int) (h : pairsOk L = true) : ∃ P, L = flat P ∧ asc none P := by
  simp only [pairsOk, Bool.and_eq_true, decide_eq_true_eq] at h
  obtain ⟨P, rfl, _⟩ := flat_of (L.length / 2) L (by omega)
  exact ⟨P, rfl, sorted_iff P none h.2⟩

theorem merge_none (L R : List Int) (a b : Int) (hL : pairsOk L = true) (hR : pairsOk R = true) (h : mg a b (L.length + R.length) L R [] [] = none) : meet L R = true := by
  obtain ⟨P, rfl, hP⟩ := pairs_of L hL
  obtain ⟨Q, rfl, hQ⟩ := pairs_of R hR
  rw [mg_mp a b _ P Q none [] [] (fun z => rfl)] at h
  rw [meet_iff]
  rcases mp_none _ P Q none true hP hQ (fun z hz => by cases hz) (by simpa using h) with h | ⟨z, hz, _⟩
  · exact h
  · cases hz

theorem merge_some (L R : List Int) (a b r : Int) (hL : pairsOk L = true) (hR : pairsOk R = true) (out nx : List Int) (h : mg a b (L.length + R.length) L R [] [] = some (out, nx)) : MergeLaw L R a b r out nx := by
  obtain ⟨P, rfl, hP⟩ := pairs_of L hL
  obtain ⟨Q, rfl, hQ⟩ := pairs_of R hR
  rw [mg_mp a b _ P Q none [] [] (fun z => rfl)] at h
  obtain ⟨T, hT, he⟩ := Option.map_eq_some_iff.1 h
  simp only [List.nil_append, Prod.mk.injEq] at he
  obtain ⟨rfl, rfl⟩ := he
  obtain ⟨m1, m2, m3⟩ := mp_mem _ P Q none T (by rw [flat_length, flat_length]; omega) hT
  have hA : asc none (T.map (·.1)) := mp_asc _ P Q none T (asc_le hP) (asc_le hQ) hT
  have hin : ∀ k, k < T.length → covers r ((T.map (·.1)).getD k (0, 0)) → ∀ s ∈ T, covers r s.1 → T.getD k ((0, 0), true) = s := fun k hk hc s hs hcs => by
    rw [getD_map_of _ T k hk ((0, 0), true)] at hc
    exact asc_apart T none hA _ (getD_mem T k hk _) s hs ⟨by have := hc.1; have := hcs.2; omega, by have := hc.2; have := hcs.1; omega⟩
  have place : ∀ s ∈ T, covers r s.1 → ∃ k : Nat, pof r (flat (T.map (·.1))) 0 = k ∧ k < (T.map (tagOf a b)).length ∧ (T.map (tagOf a b)).getD k 0 = tagOf a b s := fun s hs hc => by
    obtain ⟨k, hk, hek, hck⟩ := pof_some r (T.map (·.1)) 0 ⟨s.1, List.mem_map_of_mem hs, hc⟩
    have hk' : k < T.length := by simpa using hk
    refine ⟨k, by rw [hek]; omega, by simpa using hk', ?_⟩
    rw [getD_map_of _ T k hk' ((0, 0), true), hin k hk' hck s hs hc]
  refine ⟨?_, ?_, ?_, ?_, ?_, ?_, ?_⟩
  · cases hm : meet (flat P) (flat Q) with
    | false => rfl
    | true =>
      obtain ⟨x, hx, u, hu, ho⟩ := (meet_iff Q P).1 hm
      have := asc_apart T none hA _ ((m1 x).2 hx) _ ((m2 u).2 hu) ho
      simp at this
  · rw [flat_length]; simp
  · rw [flat_length, flat_length, flat_length, List.length_map, m3]; omega
  · intro i h1 hi
    rw [flat_length] at hi
    obtain ⟨j, rfl⟩ : ∃ j, i = j + 1 := ⟨i - 1, by omega⟩
    have e1 := (flat_at (T.map (·.1)) j).2
    have e2 := (flat_at (T.map (·.1)) (j + 1)).1
    rw [show 2 * (j + 1) - 1 = 2 * j + 1 by omega, e1, e2]
    exact asc_steps _ none hA j (by omega)
  · intro hp
    have : ∃ p ∈ P, covers r p := by
      apply Classical.byContradiction
      intro hn
      have := (pof_neg r P).2 fun p hp hc => hn ⟨p, hp, hc⟩
      omega
    obtain ⟨p, hp, hc⟩ := this
    exact place (p, true) ((m1 p).2 hp) hc
  · intro _ hp
    have : ∃ p ∈ Q, covers r p := by
      apply Classical.byContradiction
      intro hn
      have := (pof_neg r Q).2 fun p hp hc => hn ⟨p, hp, hc⟩
      omega
    obtain ⟨p, hp, hc⟩ := this
    exact place (p, false) ((m2 p).2 hp) hc
  · intro h1 h2
    rw [pof_neg] at h1 h2 ⊢
    intro p hp hc
    obtain ⟨s, hs, rfl⟩ := List.mem_map.1 hp
    obtain ⟨q, t⟩ := s
    cases t with
    | true => exact h1 q ((m1 q).1 hs) hc
    | false => exact h2 q ((m2 q).1 hs) hc

end Go.Proofs.Ytlbfcahmmjmgjaa
