/-
  The plain mathematics of this seat: ways over lines, the search by rounds, the relaxation, the names' list. No Go in sight. It imports nothing.
-/
namespace Go.Proofs.Qxb6000458a.Pure
section
set_option linter.unusedSectionVars false
variable {α : Type} [DecidableEq α]

/-- the roles of a member's lines, in order -/
def outs (ls : List (α × α)) (a : α) : List α := (ls.filter (fun p => decide (p.1 = a))).map (fun p => p.2)

theorem mem_outs {ls : List (α × α)} {a b : α} : b ∈ outs ls a ↔ (a, b) ∈ ls := by
  unfold outs
  rw [List.mem_map]
  constructor
  · rintro ⟨p, hp, rfl⟩
    obtain ⟨h1, h2⟩ := List.mem_filter.1 hp
    have h3 : p.1 = a := by simpa using h2
    subst h3
    exact h1
  · intro h
    exact ⟨(a, b), List.mem_filter.2 ⟨h, by simp⟩, rfl⟩

/-- a way of n lines leads on from a -/
def lw (ls : List (α × α)) : Nat → α → Bool
  | 0, _ => true
  | n + 1, a => (outs ls a).any (lw ls n)

/-- a way of just n lines leads from u to a -/
def way (ls : List (α × α)) (u : α) : Nat → α → Prop
  | 0, a => a = u
  | n + 1, a => ∃ b, way ls u n b ∧ (b, a) ∈ ls

theorem lw_of_way {ls : List (α × α)} {u : α} : ∀ (n m : Nat) (a : α), way ls u n a → lw ls m a = true → lw ls (n + m) u = true
  | 0, m, a, h, hm => by
    have h' : a = u := h
    subst h'
    simpa using hm
  | n + 1, m, a, ⟨b, hb, hba⟩, hm => by
    have h1 : lw ls (m + 1) b = true := by
      show (outs ls b).any (lw ls m) = true
      exact List.any_eq_true.2 ⟨a, mem_outs.2 hba, hm⟩
    have h2 := lw_of_way n (m + 1) b hb h1
    have e : n + 1 + m = n + (m + 1) := by omega
    rw [e]
    exact h2

/-! ### the search by rounds -/
/-- one role is met -/
def visit (st : List α × List α) (r : α) : List α × List α := if r ∈ st.1 then st else (st.1 ++ [r], st.2 ++ [r])

/-- one round -/
def roundF (ls : List (α × α)) (R F : List α) : List α × List α := (F.flatMap (outs ls)).foldl visit (R, [])

/-- n rounds at most -/
def bfs (ls : List (α × α)) : Nat → List α → List α → List α × List α
  | 0, R, F => (R, F)
  | n + 1, R, F => if F = [] then (R, F) else bfs ls n (roundF ls R F).1 (roundF ls R F).2

theorem visit_fold : ∀ (xs R N : List α), R.Nodup → N.Nodup → (∀ a ∈ N, a ∈ R) →
    (xs.foldl visit (R, N)).1.Nodup ∧ (xs.foldl visit (R, N)).2.Nodup ∧ (∀ a ∈ (xs.foldl visit (R, N)).2, a ∈ (xs.foldl visit (R, N)).1) ∧
    (∀ a, a ∈ (xs.foldl visit (R, N)).1 ↔ a ∈ R ∨ a ∈ xs) ∧ (∀ a, a ∈ (xs.foldl visit (R, N)).2 ↔ a ∈ N ∨ (a ∈ xs ∧ a ∉ R))
  | [], R, N, h1, h2, h3 => by simp; exact ⟨h1, h2, h3⟩
  | x :: xs, R, N, h1, h2, h3 => by
    rw [List.foldl_cons]
    by_cases hx : x ∈ R
    · have e : visit (R, N) x = (R, N) := by simp [visit, hx]
      rw [e]
      obtain ⟨g1, g2, g3, g4, g5⟩ := visit_fold xs R N h1 h2 h3
      refine ⟨g1, g2, g3, fun a => ?_, fun a => ?_⟩
      · rw [g4, List.mem_cons]
        constructor
        · rintro (h | h)
          · exact Or.inl h
          · exact Or.inr (Or.inr h)
        · rintro (h | rfl | h)
          · exact Or.inl h
          · exact Or.inl hx
          · exact Or.inr h
      · rw [g5, List.mem_cons]
        constructor
        · rintro (h | ⟨h, h'⟩)
          · exact Or.inl h
          · exact Or.inr ⟨Or.inr h, h'⟩
        · rintro (h | ⟨rfl | h, h'⟩)
          · exact Or.inl h
          · exact absurd hx h'
          · exact Or.inr ⟨h, h'⟩
    · have e : visit (R, N) x = (R ++ [x], N ++ [x]) := by simp [visit, hx]
      rw [e]
      have hxN : x ∉ N := fun h => hx (h3 x h)
      have n1 : (R ++ [x]).Nodup := by
        rw [List.nodup_append]
        refine ⟨h1, by simp, ?_⟩
        intro a ha b hb hab
        simp at hb
        subst hb
        subst hab
        exact hx ha
      have n2 : (N ++ [x]).Nodup := by
        rw [List.nodup_append]
        refine ⟨h2, by simp, ?_⟩
        intro a ha b hb hab
        simp at hb
        subst hb
        subst hab
        exact hxN ha
      obtain ⟨g1, g2, g3, g4, g5⟩ := visit_fold xs (R ++ [x]) (N ++ [x]) n1 n2 (by
        intro a ha
        rw [List.mem_append] at ha ⊢
        rcases ha with ha | ha
        · exact Or.inl (h3 a ha)
        · exact Or.inr ha)
      refine ⟨g1, g2, g3, fun a => ?_, fun a => ?_⟩
      · rw [g4, List.mem_append, List.mem_singleton, List.mem_cons]
        constructor
        · rintro ((h | h) | h)
          · exact Or.inl h
          · exact Or.inr (Or.inl h)
          · exact Or.inr (Or.inr h)
        · rintro (h | h | h)
          · exact Or.inl (Or.inl h)
          · exact Or.inl (Or.inr h)
          · exact Or.inr h
      · rw [g5, List.mem_append, List.mem_append, List.mem_singleton, List.mem_cons]
        constructor
        · rintro ((h | h) | ⟨h, h'⟩)
          · exact Or.inl h
          · exact Or.inr ⟨Or.inl h, by rw [h]; exact hx⟩
          · exact Or.inr ⟨Or.inr h, fun q => h' (Or.inl q)⟩
        · rintro (h | ⟨h | h, h'⟩)
          · exact Or.inl (Or.inl h)
          · exact Or.inl (Or.inr h)
          · by_cases ha : a = x
            · exact Or.inl (Or.inr ha)
            · exact Or.inr ⟨h, fun q => q.elim h' ha⟩

/-- what holds behind l rounds -/
structure Inv (ls : List (α × α)) (u : α) (l : Nat) (R F : List α) : Prop where
  nr : R.Nodup
  nf : F.Nodup
  r : ∀ a, a ∈ R ↔ ∃ k, k ≤ l ∧ way ls u k a
  f : ∀ a, a ∈ F ↔ way ls u l a ∧ ∀ k, k < l → ¬ way ls u k a

theorem Inv.start (ls : List (α × α)) (u : α) : Inv ls u 0 [u] [u] := by
  refine ⟨by simp, by simp, fun a => ?_, fun a => ?_⟩
  · constructor
    · intro h
      exact ⟨0, Nat.le_refl _, show a = u by simpa using h⟩
    · rintro ⟨k, hk, hw⟩
      have hk0 : k = 0 := by omega
      subst hk0
      have hw' : a = u := hw
      simp [hw']
  · constructor
    · intro h
      exact ⟨show a = u by simpa using h, fun k hk => by omega⟩
    · rintro ⟨h, _⟩
      have h' : a = u := h
      simp [h']

theorem Inv.round {ls : List (α × α)} {u : α} {l : Nat} {R F : List α} (h : Inv ls u l R F) : Inv ls u (l + 1) (roundF ls R F).1 (roundF ls R F).2 := by
  obtain ⟨g1, g2, _, g4, g5⟩ := visit_fold (F.flatMap (outs ls)) R [] h.nr (by simp) (by simp)
  have hx : ∀ a, a ∈ F.flatMap (outs ls) ↔ ∃ b, b ∈ F ∧ (b, a) ∈ ls := by
    intro a
    rw [List.mem_flatMap]
    constructor
    · rintro ⟨b, hb, hba⟩
      exact ⟨b, hb, mem_outs.1 hba⟩
    · rintro ⟨b, hb, hba⟩
      exact ⟨b, hb, mem_outs.2 hba⟩
  have hR : ∀ a, a ∈ (roundF ls R F).1 ↔ ∃ k, k ≤ l + 1 ∧ way ls u k a := by
    intro a
    show a ∈ ((F.flatMap (outs ls)).foldl visit (R, [])).1 ↔ _
    rw [g4, hx, h.r]
    constructor
    · rintro (⟨k, hk, hw⟩ | ⟨b, hb, hba⟩)
      · exact ⟨k, by omega, hw⟩
      · exact ⟨l + 1, Nat.le_refl _, b, ((h.f b).1 hb).1, hba⟩
    · rintro ⟨k, hk, hw⟩
      by_cases hkl : k ≤ l
      · exact Or.inl ⟨k, hkl, hw⟩
      · have e : k = l + 1 := by omega
        subst e
        obtain ⟨b, hb, hba⟩ := hw
        by_cases hbF : b ∈ F
        · exact Or.inr ⟨b, hbF, hba⟩
        · left
          have hn : ¬ ∀ k, k < l → ¬ way ls u k b := fun q => hbF ((h.f b).2 ⟨hb, q⟩)
          have hex : ∃ k, k < l ∧ way ls u k b := by
            apply Classical.byContradiction
            intro q
            exact hn fun k hk hw' => q ⟨k, hk, hw'⟩
          obtain ⟨k, hk, hw'⟩ := hex
          exact ⟨k + 1, by omega, b, hw', hba⟩
  refine ⟨g1, g2, hR, fun a => ?_⟩
  show a ∈ ((F.flatMap (outs ls)).foldl visit (R, [])).2 ↔ _
  rw [g5, hx]
  constructor
  · rintro (h0 | ⟨⟨b, hb, hba⟩, hna⟩)
    · simp at h0
    · refine ⟨⟨b, ((h.f b).1 hb).1, hba⟩, fun k hk hw => hna ((h.r a).2 ⟨k, by omega, hw⟩)⟩
  · rintro ⟨⟨b, hb, hba⟩, hmin⟩
    right
    refine ⟨⟨b, (h.f b).2 ⟨hb, fun k hk hw => hmin (k + 1) (by omega) ⟨b, hw, hba⟩⟩, hba⟩, fun ha => ?_⟩
    obtain ⟨k, hk, hw⟩ := (h.r a).1 ha
    exact hmin k (by omega) hw

/-- nothing new in one round: nothing new in any -/
theorem Inv.shut {ls : List (α × α)} {u : α} {l : Nat} {R : List α} (h : Inv ls u l R []) : ∀ k a, l ≤ k → way ls u k a → ∃ k', k' < l ∧ way ls u k' a := by
  have base : ∀ a, way ls u l a → ∃ k', k' < l ∧ way ls u k' a := by
    intro a hw
    apply Classical.byContradiction
    intro q
    have := (h.f a).2 ⟨hw, fun k hk hw' => q ⟨k, hk, hw'⟩⟩
    simp at this
  intro k
  induction k with
  | zero =>
    intro a hl hw
    have e : l = 0 := by omega
    subst e
    exact base a hw
  | succ k ih =>
    intro a hl hw
    by_cases e : l = k + 1
    · subst e
      exact base a hw
    · obtain ⟨b, hb, hba⟩ := hw
      obtain ⟨k', hk', hw'⟩ := ih b (by omega) hb
      by_cases e' : k' + 1 = l
      · exact base a (by rw [← e']; exact ⟨b, hw', hba⟩)
      · exact ⟨k' + 1, by omega, b, hw', hba⟩

theorem Inv.later {ls : List (α × α)} {u : α} {l : Nat} {R : List α} (h : Inv ls u l R []) (n : Nat) : Inv ls u (l + n) R [] := by
  refine ⟨h.nr, h.nf, fun a => ?_, fun a => ?_⟩
  · rw [h.r]
    constructor
    · rintro ⟨k, hk, hw⟩
      exact ⟨k, by omega, hw⟩
    · rintro ⟨k, hk, hw⟩
      by_cases hkl : k ≤ l
      · exact ⟨k, hkl, hw⟩
      · obtain ⟨k', hk', hw'⟩ := h.shut k a (by omega) hw
        exact ⟨k', by omega, hw'⟩
  · constructor
    · intro q
      simp at q
    · rintro ⟨hw, hmin⟩
      obtain ⟨k', hk', hw'⟩ := h.shut (l + n) a (by omega) hw
      exact absurd hw' (hmin k' (by omega))

theorem Inv.bfs {ls : List (α × α)} {u : α} : ∀ (n l : Nat) (R F : List α), Inv ls u l R F → Inv ls u (l + n) (bfs ls n R F).1 (bfs ls n R F).2
  | 0, l, R, F, h => h
  | n + 1, l, R, F, h => by
    by_cases hF : F = []
    · subst hF
      have e : Pure.bfs ls (n + 1) R [] = (R, []) := by simp [Pure.bfs]
      rw [e]
      exact h.later (n + 1)
    · have e : Pure.bfs ls (n + 1) R F = Pure.bfs ls n (roundF ls R F).1 (roundF ls R F).2 := by simp [Pure.bfs, hF]
      rw [e]
      have := Inv.bfs n (l + 1) _ _ h.round
      have e2 : l + (n + 1) = l + 1 + n := by omega
      rw [e2]
      exact this

/-- THE SEARCH, WHOLE -/
def within (ls : List (α × α)) (u : α) : List α × List α := bfs ls 10 [u] [u]

theorem within_inv (ls : List (α × α)) (u : α) : Inv ls u 10 (within ls u).1 (within ls u).2 := by
  have := Inv.bfs (ls := ls) (u := u) 10 0 [u] [u] (Inv.start ls u)
  simpa [within] using this

/-- the second law, its first half -/
theorem far_lw (ls : List (α × α)) (u : α) (h : (within ls u).2 ≠ []) : lw ls 10 u = true := by
  obtain ⟨a, ha⟩ := List.exists_mem_of_ne_nil _ h
  have hw := (((within_inv ls u).f a).1 ha).1
  have := lw_of_way 10 0 a hw rfl
  simpa using this

/-- the second law, its second half -/
theorem alone (ls : List (α × α)) (u : α) (h : lw ls 1 u = false) : within ls u = ([u], []) := by
  have ho : outs ls u = [] := by
    have : (outs ls u).any (lw ls 0) = false := h
    cases e : outs ls u with
    | nil => rfl
    | cons x xs => rw [e] at this; simp [lw] at this
  show Pure.bfs ls 10 [u] [u] = _
  have e1 : roundF ls [u] [u] = ([u], []) := by simp [roundF, ho]
  have e2 : Pure.bfs ls 10 [u] [u] = Pure.bfs ls 9 [u] [] := by
    show (if [u] = [] then _ else Pure.bfs ls 9 (roundF ls [u] [u]).1 (roundF ls [u] [u]).2) = _
    rw [if_neg (by simp), e1]
  rw [e2]
  show (if ([] : List α) = [] then _ else _) = _
  rw [if_pos rfl]

/-! ### the names' list -/
def addName (ns : List α) (a : α) : List α := if a ∈ ns then ns else ns ++ [a]
def addLine (ns : List α) (p : α × α) : List α := addName (addName ns p.1) p.2
def names (u : α) (ls : List (α × α)) : List α := ls.foldl addLine [u]

theorem addName_nodup {ns : List α} (h : ns.Nodup) (a : α) : (addName ns a).Nodup := by
  unfold addName
  split
  · exact h
  · rename_i ha
    rw [List.nodup_append]
    refine ⟨h, by simp, ?_⟩
    intro x hx b hb hab
    simp at hb
    subst hb
    subst hab
    exact ha hx

theorem mem_addName {ns : List α} {a x : α} : x ∈ addName ns a ↔ x ∈ ns ∨ x = a := by
  unfold addName
  split
  · rename_i ha
    constructor
    · exact Or.inl
    · rintro (h | rfl)
      · exact h
      · exact ha
  · simp

theorem addName_length (ns : List α) (a : α) : ns.length ≤ (addName ns a).length ∧ (addName ns a).length ≤ ns.length + 1 := by
  unfold addName
  split <;> simp

theorem addName_head {ns : List α} {u : α} (a : α) (h : ns[0]? = some u) : (addName ns a)[0]? = some u := by
  unfold addName
  split
  · exact h
  · cases ns with
    | nil => simp at h
    | cons x xs => simpa using h

theorem addLine_length (ns : List α) (p : α × α) : ns.length ≤ (addLine ns p).length ∧ (addLine ns p).length ≤ ns.length + 2 := by
  have h1 := addName_length ns p.1
  have h2 := addName_length (addName ns p.1) p.2
  unfold addLine
  omega

theorem names_fold : ∀ (ls : List (α × α)) (ns : List α) (u : α), ns.Nodup → ns[0]? = some u →
    (ls.foldl addLine ns).Nodup ∧ (ls.foldl addLine ns)[0]? = some u ∧ (∀ x ∈ ns, x ∈ ls.foldl addLine ns) ∧ (∀ p ∈ ls, p.1 ∈ ls.foldl addLine ns ∧ p.2 ∈ ls.foldl addLine ns) ∧ (ls.foldl addLine ns).length ≤ ns.length + 2 * ls.length
  | [], ns, u, h, h0 => ⟨h, h0, fun _ hx => hx, by simp, by simp⟩
  | p :: ls, ns, u, h, h0 => by
    rw [List.foldl_cons]
    have hl := addLine_length ns p
    obtain ⟨g1, g2, g3, g4, g5⟩ := names_fold ls (addLine ns p) u (addName_nodup (addName_nodup h _) _) (addName_head _ (addName_head _ h0))
    refine ⟨g1, g2, fun x hx => g3 x (mem_addName.2 (Or.inl (mem_addName.2 (Or.inl hx)))), ?_, ?_⟩
    · intro q hq
      rcases List.mem_cons.1 hq with rfl | hq
      · exact ⟨g3 _ (mem_addName.2 (Or.inl (mem_addName.2 (Or.inr rfl)))), g3 _ (mem_addName.2 (Or.inr rfl))⟩
      · exact g4 q hq
    · simp only [List.length_cons]
      omega

theorem names_spec (u : α) (ls : List (α × α)) : (names u ls).Nodup ∧ (names u ls)[0]? = some u ∧ (∀ p ∈ ls, p.1 ∈ names u ls ∧ p.2 ∈ names u ls) ∧ (names u ls).length ≤ 1 + 2 * ls.length := by
  obtain ⟨g1, g2, _, g4, g5⟩ := names_fold ls [u] u (by simp) rfl
  exact ⟨g1, g2, g4, by show (ls.foldl addLine [u]).length ≤ _; simpa using g5⟩

/-! ### where a name stands -/
/-- the first place at which s stands; the length where it does not -/
def ix : List α → α → Nat
  | [], _ => 0
  | x :: xs, s => if x = s then 0 else ix xs s + 1

theorem ix_le : ∀ (ns : List α) (s : α), ix ns s ≤ ns.length
  | [], _ => Nat.le_refl _
  | x :: xs, s => by
    have := ix_le xs s
    unfold ix
    split <;> simp <;> omega

theorem ix_lt : ∀ {ns : List α} {s : α}, s ∈ ns → ix ns s < ns.length ∧ ns[ix ns s]? = some s
  | x :: xs, s, h => by
    unfold ix
    split
    · rename_i e
      simp [e]
    · rename_i e
      rcases List.mem_cons.1 h with rfl | h'
      · exact absurd rfl e
      · obtain ⟨h1, h2⟩ := ix_lt h'
        simp
        exact ⟨h1, h2⟩

theorem ix_eq : ∀ {ns : List α} {s : α} (i : Nat), ns[i]? = some s → (∀ j, j < i → ns[j]? ≠ some s) → ix ns s = i
  | [], s, i, h, _ => by simp at h
  | x :: xs, s, 0, h, _ => by
    simp at h
    simp [ix, h]
  | x :: xs, s, i + 1, h, hn => by
    have hx : x ≠ s := fun e => hn 0 (by omega) (by simp [e])
    have := ix_eq (ns := xs) (s := s) i (by simpa using h) (fun j hj => by simpa using hn (j + 1) (by omega))
    simp [ix, hx, this]

theorem ix_none : ∀ {ns : List α} {s : α}, s ∉ ns → ix ns s = ns.length
  | [], _, _ => rfl
  | x :: xs, s, h => by
    have hx : x ≠ s := fun e => h (by simp [e])
    have := ix_none (ns := xs) (s := s) (fun q => h (by simp [q]))
    simp [ix, hx, this]

theorem ix_get {ns : List α} (hn : ns.Nodup) {i : Nat} {s : α} (h : ns[i]? = some s) : ix ns s = i := by
  refine ix_eq i h fun j hj e => ?_
  obtain ⟨hi, hi'⟩ := List.getElem?_eq_some_iff.1 h
  obtain ⟨hj', hj''⟩ := List.getElem?_eq_some_iff.1 e
  exact (List.pairwise_iff_getElem.1 hn) j i hj' hi hj (by rw [hi', hj''])

/-- what indexOf answers -/
def idx (ns : List α) (s : α) : Int := if ix ns s < ns.length then (ix ns s : Int) else -1

theorem idx_mem {ns : List α} {s : α} (h : s ∈ ns) : idx ns s = (ix ns s : Int) := by
  unfold idx
  rw [if_pos (ix_lt h).1]

theorem idx_none {ns : List α} {s : α} (h : s ∉ ns) : idx ns s = -1 := by
  unfold idx
  rw [if_neg (by rw [ix_none h]; omega)]

theorem idx_neg {ns : List α} {s : α} : idx ns s < 0 ↔ s ∉ ns := by
  constructor
  · intro h hm
    rw [idx_mem hm] at h
    omega
  · intro h
    rw [idx_none h]
    omega

/-- the lines as pairs of places -/
def edges (ns : List α) (ls : List (α × α)) : List (Nat × Nat) := ls.map fun p => (ix ns p.1, ix ns p.2)

/-- what ties the names' places to the names -/
structure Tied (u : α) (ls : List (α × α)) (ns : List α) : Prop where
  nodup : ns.Nodup
  head : ns[0]? = some u
  ends : ∀ p ∈ ls, p.1 ∈ ns ∧ p.2 ∈ ns

theorem tied_names (u : α) (ls : List (α × α)) : Tied u ls (names u ls) := by
  obtain ⟨g1, g2, g3, _⟩ := names_spec u ls
  exact ⟨g1, g2, g3⟩

theorem edges_lt {u : α} {ls : List (α × α)} {ns : List α} (T : Tied u ls ns) : ∀ e ∈ edges ns ls, e.1 < ns.length ∧ e.2 < ns.length := by
  intro e he
  obtain ⟨p, hp, rfl⟩ := List.mem_map.1 he
  exact ⟨(ix_lt (T.ends p hp).1).1, (ix_lt (T.ends p hp).2).1⟩

theorem mem_edges {u : α} {ls : List (α × α)} {ns : List α} (T : Tied u ls ns) {i j : Nat} {a b : α} (hi : ns[i]? = some a) (hj : ns[j]? = some b) : (i, j) ∈ edges ns ls ↔ (a, b) ∈ ls := by
  constructor
  · intro h
    obtain ⟨p, hp, hpe⟩ := List.mem_map.1 h
    simp only [Prod.mk.injEq] at hpe
    obtain ⟨h1, h2⟩ := hpe
    have e1 := (ix_lt (T.ends p hp).1).2
    have e2 := (ix_lt (T.ends p hp).2).2
    rw [h1, hi] at e1
    rw [h2, hj] at e2
    have e3 : p = (a, b) := by
      obtain ⟨x, y⟩ := p
      simp at e1 e2
      rw [e1, e2]
    rw [← e3]
    exact hp
  · intro h
    refine List.mem_map.2 ⟨(a, b), h, ?_⟩
    simp only [ix_get T.nodup hi, ix_get T.nodup hj]

theorem way_edges {u : α} {ls : List (α × α)} {ns : List α} (T : Tied u ls ns) : ∀ (k j : Nat) (a : α), ns[j]? = some a → (way (edges ns ls) 0 k j ↔ way ls u k a)
  | 0, j, a, h => by
    constructor
    · intro e
      have e' : j = 0 := e
      subst e'
      rw [T.head] at h
      exact show a = u by simpa using h.symm
    · intro e
      have e' : a = u := e
      subst e'
      have := ix_get T.nodup h
      rw [ix_get T.nodup T.head] at this
      exact show j = 0 from this.symm
  | k + 1, j, a, h => by
    constructor
    · rintro ⟨b, hb, hbj⟩
      have hlt := (edges_lt T _ hbj).1
      have hb' : ns[b]? = some ns[b] := List.getElem?_eq_getElem hlt
      exact ⟨ns[b], (way_edges T k b _ hb').1 hb, (mem_edges T hb' h).1 hbj⟩
    · rintro ⟨b, hb, hba⟩
      have hm := (T.ends _ hba).1
      have hb' := (ix_lt hm).2
      exact ⟨ix ns b, (way_edges T k _ _ hb').2 hb, (mem_edges T hb' h).2 hba⟩

theorem lw_edges {u : α} {ls : List (α × α)} {ns : List α} (T : Tied u ls ns) : ∀ (k j : Nat) (a : α), ns[j]? = some a → lw (edges ns ls) k j = lw ls k a
  | 0, _, _, _ => rfl
  | k + 1, j, a, h => by
    rw [Bool.eq_iff_iff]
    show (outs (edges ns ls) j).any (lw (edges ns ls) k) = true ↔ (outs ls a).any (lw ls k) = true
    rw [List.any_eq_true, List.any_eq_true]
    constructor
    · rintro ⟨b, hb, hbk⟩
      have hb' := mem_outs.1 hb
      have hlt := (edges_lt T _ hb').2
      have hbn : ns[b]? = some ns[b] := List.getElem?_eq_getElem hlt
      exact ⟨ns[b], mem_outs.2 ((mem_edges T h hbn).1 hb'), by rw [← lw_edges T k b _ hbn]; exact hbk⟩
    · rintro ⟨b, hb, hbk⟩
      have hb' := mem_outs.1 hb
      have hbn := (ix_lt (T.ends _ hb').2).2
      exact ⟨ix ns b, mem_outs.2 ((mem_edges T h hbn).2 hb'), by rw [lw_edges T k _ _ hbn]; exact hbk⟩

end

/-! ### the relaxation, over places -/
def relax (d : List Int) (e : Nat × Nat) : List Int :=
  if 0 ≤ d.getD e.1 0 ∧ (d.getD e.2 0 < 0 ∨ d.getD e.1 0 + 1 < d.getD e.2 0) then d.set e.2 (d.getD e.1 0 + 1) else d

def relaxAll (es : List (Nat × Nat)) : Nat → List Int → List Int
  | 0, d => d
  | n + 1, d => relaxAll es n (es.foldl relax d)

def dist0 (n : Nat) : List Int := (List.replicate n (-1)).set 0 0
def dists (n : Nat) (es : List (Nat × Nat)) : List Int := relaxAll es 10 (dist0 n)

theorem relax_length (d : List Int) (e : Nat × Nat) : (relax d e).length = d.length := by
  unfold relax
  split <;> simp

theorem fold_relax_length : ∀ (xs : List (Nat × Nat)) (d : List Int), (xs.foldl relax d).length = d.length
  | [], _ => rfl
  | x :: xs, d => by rw [List.foldl_cons, fold_relax_length xs, relax_length]

theorem relaxAll_length (es : List (Nat × Nat)) : ∀ (n : Nat) (d : List Int), (relaxAll es n d).length = d.length
  | 0, _ => rfl
  | n + 1, d => by rw [relaxAll, relaxAll_length es n, fold_relax_length]

theorem dists_length (n : Nat) (es : List (Nat × Nat)) : (dists n es).length = n := by simp [dists, relaxAll_length, dist0]

theorem getD_set (d : List Int) (i : Nat) (x : Int) (j : Nat) (hi : i < d.length) : (d.set i x).getD j 0 = if j = i then x else d.getD j 0 := by
  rw [List.getD_eq_getElem?_getD, List.getD_eq_getElem?_getD, List.getElem?_set]
  by_cases e : i = j
  · subst e
    simp [hi]
  · rw [if_neg e, if_neg (fun h => e h.symm)]

theorem relax_better {d : List Int} {e : Nat × Nat} (he : e.2 < d.length) (j : Nat) (hj : 0 ≤ d.getD j 0) : 0 ≤ (relax d e).getD j 0 ∧ (relax d e).getD j 0 ≤ d.getD j 0 := by
  unfold relax
  split
  · rename_i h
    rw [getD_set _ _ _ _ he]
    split
    · rename_i e1
      subst e1
      omega
    · omega
  · omega

theorem relax_done {d : List Int} {e : Nat × Nat} (he : e.2 < d.length) (h1 : 0 ≤ d.getD e.1 0) : 0 ≤ (relax d e).getD e.2 0 ∧ (relax d e).getD e.2 0 ≤ d.getD e.1 0 + 1 := by
  unfold relax
  split
  · rw [getD_set _ _ _ _ he, if_pos rfl]
    omega
  · rename_i h
    omega

/-- each number is -1, or a way of so many lines leads there -/
def Sound (es : List (Nat × Nat)) (d : List Int) : Prop := ∀ j, j < d.length → d.getD j 0 = -1 ∨ ∃ k : Nat, d.getD j 0 = (k : Int) ∧ way es 0 k j

theorem relax_sound {es : List (Nat × Nat)} {d : List Int} {e : Nat × Nat} (hs : Sound es d) (hm : e ∈ es) (h1 : e.1 < d.length) (h2 : e.2 < d.length) : Sound es (relax d e) := by
  intro j hj
  rw [relax_length] at hj
  unfold relax
  split
  · rename_i h
    rw [getD_set _ _ _ _ h2]
    split
    · rename_i e1
      subst e1
      right
      rcases hs e.1 h1 with q | ⟨k, hk, hw⟩
      · omega
      · exact ⟨k + 1, by omega, e.1, hw, hm⟩
    · exact hs j hj
  · exact hs j hj

theorem fold_relax {es : List (Nat × Nat)} : ∀ (xs : List (Nat × Nat)) (d : List Int), (∀ e ∈ xs, e ∈ es) → (∀ e ∈ xs, e.1 < d.length ∧ e.2 < d.length) → Sound es d →
    Sound es (xs.foldl relax d) ∧ (∀ j, 0 ≤ d.getD j 0 → 0 ≤ (xs.foldl relax d).getD j 0 ∧ (xs.foldl relax d).getD j 0 ≤ d.getD j 0) ∧
    (∀ e ∈ xs, 0 ≤ d.getD e.1 0 → 0 ≤ (xs.foldl relax d).getD e.2 0 ∧ (xs.foldl relax d).getD e.2 0 ≤ d.getD e.1 0 + 1)
  | [], d, _, _, hs => ⟨hs, fun j hj => ⟨hj, Int.le_refl _⟩, by simp⟩
  | x :: xs, d, hm, hl, hs => by
    rw [List.foldl_cons]
    have hx := hl x (by simp)
    obtain ⟨g1, g2, g3⟩ := fold_relax xs (relax d x) (fun e he => hm e (by simp [he])) (fun e he => by rw [relax_length]; exact hl e (by simp [he])) (relax_sound hs (hm x (by simp)) hx.1 hx.2)
    refine ⟨g1, fun j hj => ?_, fun e he h0 => ?_⟩
    · have b1 := relax_better (e := x) hx.2 j hj
      have b2 := g2 j b1.1
      omega
    · rcases List.mem_cons.1 he with rfl | he'
      · have b1 := relax_done (e := e) hx.2 h0
        have b2 := g2 e.2 b1.1
        omega
      · have b1 := relax_better (e := x) hx.2 e.1 h0
        have b2 := g3 e he' b1.1
        omega

theorem relaxAll_spec {es : List (Nat × Nat)} : ∀ (n r : Nat) (d : List Int), (∀ e ∈ es, e.1 < d.length ∧ e.2 < d.length) → Sound es d → (∀ k j, k ≤ r → way es 0 k j → 0 ≤ d.getD j 0 ∧ d.getD j 0 ≤ (k : Int)) →
    Sound es (relaxAll es n d) ∧ ∀ k j, k ≤ r + n → way es 0 k j → 0 ≤ (relaxAll es n d).getD j 0 ∧ (relaxAll es n d).getD j 0 ≤ (k : Int)
  | 0, r, d, _, hs, hb => ⟨hs, hb⟩
  | n + 1, r, d, hl, hs, hb => by
    obtain ⟨g1, g2, g3⟩ := fold_relax (es := es) es d (fun _ h => h) hl hs
    have := relaxAll_spec n (r + 1) (es.foldl relax d) (fun e he => by rw [fold_relax_length]; exact hl e he) g1 (fun k j hk hw => by
      by_cases hkr : k ≤ r
      · have b1 := hb k j hkr hw
        have b2 := g2 j b1.1
        omega
      · have e : k = r + 1 := by omega
        subst e
        obtain ⟨b, hwb, hbj⟩ := hw
        have b1 := hb r b (Nat.le_refl _) hwb
        have b2 := g3 (b, j) hbj b1.1
        simp only at b2
        omega)
    have e : r + (n + 1) = r + 1 + n := by omega
    rw [e]
    exact this

theorem dist0_getD (n j : Nat) (hn : 0 < n) (hj : j < n) : (dist0 n).getD j 0 = if j = 0 then 0 else -1 := by
  unfold dist0
  rw [getD_set _ _ _ _ (by simpa using hn)]
  split
  · rfl
  · rw [List.getD_eq_getElem?_getD, List.getElem?_replicate, if_pos hj]
    rfl

theorem dists_spec {n : Nat} {es : List (Nat × Nat)} (hn : 0 < n) (hl : ∀ e ∈ es, e.1 < n ∧ e.2 < n) :
    Sound es (dists n es) ∧ ∀ k j, k ≤ 10 → way es 0 k j → 0 ≤ (dists n es).getD j 0 ∧ (dists n es).getD j 0 ≤ (k : Int) := by
  have h0 : (dist0 n).length = n := by simp [dist0]
  have := relaxAll_spec (es := es) 10 0 (dist0 n) (fun e he => by rw [h0]; exact hl e he) (fun j hj => by
    rw [h0] at hj
    rw [dist0_getD n j hn hj]
    split
    · rename_i e
      exact Or.inr ⟨0, rfl, e⟩
    · exact Or.inl rfl) (fun k j hk hw => by
    have e : k = 0 := by omega
    subst e
    have e' : j = 0 := hw
    subst e'
    rw [dist0_getD n 0 hn hn]
    simp)
  simpa [dists] using this

/-! ### the sets of names, step by step -/
def nextSet (es : List (Nat × Nat)) (cur : List Bool) (nx : List Bool) : List Bool := es.foldl (fun nx e => if cur.getD e.1 false then nx.set e.2 true else nx) nx

def wol (es : List (Nat × Nat)) (n : Nat) : Nat → List Bool → Bool
  | 0, _ => true
  | k + 1, cur => if es.any (fun e => cur.getD e.1 false) then wol es n k (nextSet es cur (List.replicate n false)) else false

theorem nextSet_length : ∀ (es : List (Nat × Nat)) (cur nx : List Bool), (nextSet es cur nx).length = nx.length
  | [], _, _ => rfl
  | e :: es, cur, nx => by
    show (nextSet es cur (if cur.getD e.1 false then nx.set e.2 true else nx)).length = _
    rw [nextSet_length es]
    split <;> simp

theorem getD_setB (d : List Bool) (i j : Nat) (hi : i < d.length) : (d.set i true).getD j false = if j = i then true else d.getD j false := by
  rw [List.getD_eq_getElem?_getD, List.getD_eq_getElem?_getD, List.getElem?_set]
  by_cases e : i = j
  · subst e
    simp [hi]
  · rw [if_neg e, if_neg (fun h => e h.symm)]

theorem nextSet_getD (cur : List Bool) : ∀ (es : List (Nat × Nat)) (nx : List Bool) (j : Nat), (∀ e ∈ es, e.2 < nx.length) →
    ((nextSet es cur nx).getD j false = true ↔ nx.getD j false = true ∨ ∃ e ∈ es, cur.getD e.1 false = true ∧ e.2 = j)
  | [], nx, j, _ => by simp [nextSet]
  | e :: es, nx, j, hl => by
    show (nextSet es cur (if cur.getD e.1 false then nx.set e.2 true else nx)).getD j false = true ↔ _
    have he := hl e (by simp)
    rw [nextSet_getD cur es _ j (fun x hx => by split <;> simpa using hl x (by simp [hx]))]
    by_cases hc : cur.getD e.1 false = true
    · rw [if_pos hc, getD_setB _ _ _ he]
      by_cases hj : j = e.2
      · rw [if_pos hj]
        constructor
        · intro _
          exact Or.inr ⟨e, by simp, hc, hj.symm⟩
        · intro _
          exact Or.inl rfl
      · rw [if_neg hj]
        constructor
        · rintro (h | ⟨x, hx, h1, h2⟩)
          · exact Or.inl h
          · exact Or.inr ⟨x, by simp [hx], h1, h2⟩
        · rintro (h | ⟨x, hx, h1, h2⟩)
          · exact Or.inl h
          · rcases List.mem_cons.1 hx with rfl | hx
            · exact absurd h2.symm hj
            · exact Or.inr ⟨x, hx, h1, h2⟩
    · rw [if_neg hc]
      constructor
      · rintro (h | ⟨x, hx, h1, h2⟩)
        · exact Or.inl h
        · exact Or.inr ⟨x, by simp [hx], h1, h2⟩
      · rintro (h | ⟨x, hx, h1, h2⟩)
        · exact Or.inl h
        · rcases List.mem_cons.1 hx with rfl | hx
          · exact absurd h1 hc
          · exact Or.inr ⟨x, hx, h1, h2⟩

theorem wol_spec {es : List (Nat × Nat)} {n : Nat} (hl : ∀ e ∈ es, e.1 < n ∧ e.2 < n) : ∀ (k : Nat) (cur : List Bool), (∃ j, cur.getD j false = true) → (wol es n k cur = true ↔ ∃ j, cur.getD j false = true ∧ lw es k j = true)
  | 0, cur, h => by
    obtain ⟨j, hj⟩ := h
    exact ⟨fun _ => ⟨j, hj, rfl⟩, fun _ => rfl⟩
  | k + 1, cur, h => by
    unfold wol
    by_cases ha : es.any (fun e => cur.getD e.1 false) = true
    · rw [if_pos ha]
      have hn : ∀ j, (nextSet es cur (List.replicate n false)).getD j false = true ↔ ∃ e ∈ es, cur.getD e.1 false = true ∧ e.2 = j := by
        intro j
        rw [nextSet_getD cur es _ j (fun e he => by simpa using (hl e he).2)]
        constructor
        · rintro (q | q)
          · rw [List.getD_eq_getElem?_getD, List.getElem?_replicate] at q
            split at q <;> simp at q
          · exact q
        · exact Or.inr
      obtain ⟨e, he, hce⟩ := List.any_eq_true.1 ha
      rw [wol_spec hl k _ ⟨e.2, (hn e.2).2 ⟨e, he, hce, rfl⟩⟩]
      constructor
      · rintro ⟨j, hj, hk⟩
        obtain ⟨x, hx, h1, h2⟩ := (hn j).1 hj
        refine ⟨x.1, h1, ?_⟩
        show (outs es x.1).any (lw es k) = true
        exact List.any_eq_true.2 ⟨x.2, mem_outs.2 hx, by rw [h2]; exact hk⟩
      · rintro ⟨j, hj, hk⟩
        have hk' : (outs es j).any (lw es k) = true := hk
        obtain ⟨x, hx, h2⟩ := List.any_eq_true.1 hk'
        exact ⟨x, (hn x).2 ⟨(j, x), mem_outs.1 hx, hj, rfl⟩, h2⟩
    · rw [if_neg ha]
      constructor
      · intro q
        cases q
      · rintro ⟨j, hj, hk⟩
        have hk' : (outs es j).any (lw es k) = true := hk
        obtain ⟨x, hx, _⟩ := List.any_eq_true.1 hk'
        exact absurd (List.any_eq_true.2 ⟨(j, x), mem_outs.1 hx, hj⟩) ha

def cur0 (n : Nat) : List Bool := (List.replicate n false).set 0 true

theorem cur0_getD (n j : Nat) (hn : 0 < n) : (cur0 n).getD j false = decide (j = 0) := by
  unfold cur0
  rw [getD_setB _ _ _ (by simpa using hn)]
  split
  · simp [*]
  · rename_i h
    rw [List.getD_eq_getElem?_getD, List.getElem?_replicate]
    split <;> simp [h]

section
set_option linter.unusedSectionVars false
variable {α : Type} [DecidableEq α]

/-- THE THIRD LAW: the walk's answer is the way's -/
theorem wol_lw {u : α} {ls : List (α × α)} {ns : List α} (T : Tied u ls ns) (k : Nat) : wol (edges ns ls) ns.length k (cur0 ns.length) = lw ls k u := by
  have hn : 0 < ns.length := by
    obtain ⟨h, _⟩ := List.getElem?_eq_some_iff.1 T.head
    exact h
  rw [Bool.eq_iff_iff, wol_spec (edges_lt T) k _ ⟨0, by rw [cur0_getD _ _ hn]; rfl⟩, ← lw_edges T k 0 u T.head]
  constructor
  · rintro ⟨j, hj, hk⟩
    rw [cur0_getD _ _ hn] at hj
    have e : j = 0 := by simpa using hj
    rw [← e]
    exact hk
  · intro hk
    exact ⟨0, by rw [cur0_getD _ _ hn]; rfl, hk⟩

/-! ### THE FIRST LAW -/
/-- within ten -/
def inb (x : Int) : Bool := decide (0 ≤ x) && decide (x ≤ 10)

theorem countP_pair {β : Type} (p : α → Bool) (q : β → Bool) : ∀ (as : List α) (bs : List β), as.length = bs.length → (∀ (j : Nat) (a : α) (b : β), as[j]? = some a → bs[j]? = some b → p a = q b) → as.countP p = bs.countP q
  | [], [], _, _ => rfl
  | a :: as, b :: bs, hl, h => by
    rw [List.countP_cons, List.countP_cons, countP_pair p q as bs (by simpa using hl) (fun j x y hx hy => h (j + 1) x y (by simpa using hx) (by simpa using hy)), h 0 a b rfl rfl]
  | [], b :: bs, hl, _ => by simp at hl
  | a :: as, [], hl, _ => by simp at hl

theorem count_members {R ns : List α} (hR : R.Nodup) (hn : ns.Nodup) (hs : ∀ a ∈ R, a ∈ ns) : R.length = ns.countP (fun a => decide (a ∈ R)) := by
  rw [List.countP_eq_length_filter]
  refine List.Perm.length_eq ((List.perm_ext_iff_of_nodup hR (hn.filter _)).2 fun a => ?_)
  rw [List.mem_filter]
  constructor
  · intro h
    exact ⟨hs a h, by simpa using h⟩
  · rintro ⟨_, h⟩
    simpa using h

theorem way_mem {u : α} {ls : List (α × α)} {ns : List α} (T : Tied u ls ns) : ∀ (k : Nat) (a : α), way ls u k a → a ∈ ns
  | 0, a, h => by
    have e : a = u := h
    subst e
    obtain ⟨hi, e⟩ := List.getElem?_eq_some_iff.1 T.head
    rw [← e]
    exact List.getElem_mem hi
  | _ + 1, _, ⟨_, _, hba⟩ => (T.ends _ hba).2

/-- the number at a name's place, and the ways to it -/
theorem dist_tells {u : α} {ls : List (α × α)} {ns : List α} (T : Tied u ls ns) {j : Nat} {a : α} (h : ns[j]? = some a) :
    (inb ((dists ns.length (edges ns ls)).getD j 0) = true ↔ ∃ k, k ≤ 10 ∧ way ls u k a) ∧
    ((dists ns.length (edges ns ls)).getD j 0 = 10 ↔ way ls u 10 a ∧ ∀ k, k < 10 → ¬ way ls u k a) := by
  obtain ⟨hj, _⟩ := List.getElem?_eq_some_iff.1 h
  obtain ⟨hs, hb⟩ := dists_spec (es := edges ns ls) (n := ns.length) (by omega) (edges_lt T)
  have hs' := hs j (by rw [dists_length]; exact hj)
  generalize hd : (dists ns.length (edges ns ls)).getD j 0 = d at hs'
  have hb' : ∀ k, k ≤ 10 → way ls u k a → 0 ≤ d ∧ d ≤ (k : Int) := fun k hk hw => by
    have := hb k j hk ((way_edges T k j a h).2 hw)
    rw [hd] at this
    exact this
  have hs'' : d = -1 ∨ ∃ k : Nat, d = (k : Int) ∧ way ls u k a := by
    rcases hs' with q | ⟨k, hk, hw⟩
    · exact Or.inl q
    · exact Or.inr ⟨k, hk, (way_edges T k j a h).1 hw⟩
  constructor
  · simp only [inb, Bool.and_eq_true, decide_eq_true_eq]
    constructor
    · rintro ⟨h1, h2⟩
      rcases hs'' with q | ⟨k, hk, hw⟩
      · omega
      · exact ⟨k, by omega, hw⟩
    · rintro ⟨k, hk, hw⟩
      have := hb' k hk hw
      omega
  · constructor
    · intro e
      rcases hs'' with q | ⟨k, hk, hw⟩
      · omega
      · have ek : k = 10 := by omega
        subst ek
        refine ⟨hw, fun k hk hw' => ?_⟩
        have := hb' k (by omega) hw'
        omega
    · rintro ⟨hw, hmin⟩
      have h10 := hb' 10 (by omega) hw
      rcases hs'' with q | ⟨k, hk, hw'⟩
      · omega
      · have : ¬ k < 10 := fun q => hmin k q hw'
        omega

theorem law1_in {u : α} {ls : List (α × α)} {ns : List α} (T : Tied u ls ns) {j : Nat} {a : α} (h : ns[j]? = some a) : decide (a ∈ (within ls u).1) = inb ((dists ns.length (edges ns ls)).getD j 0) := by
  rw [Bool.eq_iff_iff, (dist_tells T h).1, decide_eq_true_eq, (within_inv ls u).r]

theorem law1_far {u : α} {ls : List (α × α)} {ns : List α} (T : Tied u ls ns) {j : Nat} {a : α} (h : ns[j]? = some a) : a ∈ (within ls u).2 ↔ (dists ns.length (edges ns ls)).getD j 0 = 10 := by
  rw [(dist_tells T h).2, (within_inv ls u).f]

theorem getD_of {l : List Int} {j : Nat} {b : Int} (h : l[j]? = some b) : l.getD j 0 = b := by
  rw [List.getD_eq_getElem?_getD, h]
  rfl

theorem law1_within {u : α} {ls : List (α × α)} {ns : List α} (T : Tied u ls ns) : (within ls u).1.length = (dists ns.length (edges ns ls)).countP inb := by
  rw [count_members (within_inv ls u).nr T.nodup (fun a ha => by
    obtain ⟨k, _, hw⟩ := ((within_inv ls u).r a).1 ha
    exact way_mem T k a hw)]
  refine countP_pair _ _ _ _ (by rw [dists_length]) fun j a b ha hb => ?_
  have := law1_in T ha
  rw [getD_of hb] at this
  exact this

theorem law1_exact {u : α} {ls : List (α × α)} {ns : List α} (T : Tied u ls ns) : (within ls u).2.length = (dists ns.length (edges ns ls)).countP (fun x => decide (x = 10)) := by
  rw [count_members (within_inv ls u).nf T.nodup (fun a ha => way_mem T 10 a (((within_inv ls u).f a).1 ha).1)]
  refine countP_pair _ _ _ _ (by rw [dists_length]) fun j a b ha hb => ?_
  have := law1_far T ha
  rw [getD_of hb] at this
  rw [Bool.eq_iff_iff, decide_eq_true_eq, decide_eq_true_eq]
  exact this

theorem law1_each {u : α} {ls : List (α × α)} {ns : List α} (T : Tied u ls ns) {a : α} (h : a ∈ (within ls u).2) : a ∈ ns ∧ (dists ns.length (edges ns ls)).getD (ix ns a) 0 = 10 := by
  have hm := way_mem T 10 a (((within_inv ls u).f a).1 h).1
  exact ⟨hm, (law1_far T (ix_lt hm).2).1 h⟩

end
end Go.Proofs.Qxb6000458a.Pure
