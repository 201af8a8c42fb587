/-
  Seat b6000458a: withinMaxLinks, walked.
-/
import Derived.Test.Qxb6000458aReads
namespace Go.Proofs.Qxb6000458a
open Go.RowKit Go.WideMaps Go.Maps

theorem Try.info9 : (Try.prog.info? 9).map (fun i => (i.zero, i.size, i.bytes)) = some (some (.string ByteArray.empty), 1, 16) := by kernel_rfl
theorem zero4 (w : World) : (zeroValue 4).run Try.prog w = .ok (.bool false) w := by kernel_rfl

/-- is the name on the list? -/
def inR (R : List ByteArray) (s : ByteArray) : Bool := R.any (fun t => decide (t = s))
theorem inR_iff {R : List ByteArray} {s : ByteArray} : inR R s = true ↔ s ∈ R := by
  simp [inR]

/-- what the set holds -/
def setF (R : List ByteArray) : Lit → Option Value := fun kl => if R.any (fun t => (keyL t).sameKey kl) then some (.bool true) else none

theorem setF_any (R : List ByteArray) (s : ByteArray) : R.any (fun t => (keyL t).sameKey (keyL s)) = inR R s := by
  unfold inR
  congr 1
  funext t
  by_cases h : t = s
  · subst h
    simp [keyL, Lit.sameKey]
  · rw [sameKey_ne (fun q => h (keyL_inj q))]
    simp [h]

theorem setF_at (R : List ByteArray) (s : ByteArray) : (setF R (keyL s)).getD (.bool false) = .bool (inR R s) := by
  unfold setF
  rw [setF_any]
  cases inR R s <;> rfl

theorem setF_some (R : List ByteArray) (s : ByteArray) : (setF R (keyL s)).isSome = inR R s := by
  unfold setF
  rw [setF_any]
  cases inR R s <;> rfl

theorem setF_put (R : List ByteArray) (s : ByteArray) : putF (setF R) (keyL s) (.bool true) = setF (R ++ [s]) := by
  funext kl
  unfold putF setF
  have e : kl.sameKey (keyL s) = (keyL s).sameKey kl := by
    cases h : kl.sameKey (keyL s)
    · cases h2 : (keyL s).sameKey kl
      · rfl
      · have := WideAt.sameKey_eq h2
        subst this
        simp [keyL, Lit.sameKey] at h
    · have := WideAt.sameKey_eq h
      subst this
      simp [keyL, Lit.sameKey]
  rw [e, List.any_append]
  cases h : (keyL s).sameKey kl <;> simp [h]

/-- one name more, by the map's own laws -/
theorem set_put {w : World} {b : Nat} {R : List ByteArray} (h : MapIs w Try.prog 9 b R.length (setF R)) {s : ByteArray} (hs : s.size ≤ maxLen) (hn : inR R s = false) (hR : R.length < maxLen) {t : TypeId} (ht : Try.prog.underlying t = some (.map 9 4)) :
    ∃ w', (Instr.mapUpdate t (.map (some b)) (.string s) (.bool true)).run Try.prog w = .ok () w' ∧ MapIs w' Try.prog 9 b (R ++ [s]).length (setF (R ++ [s])) ∧ w.grownBy w' (some b) := by
  have hkey : keyOf Try.prog 9 (.string s) = some (keyL s) := keyOf_string_mk Try.underlying9 hs
  obtain ⟨w', h1, h2, h3⟩ := h.put law9 ht hR hkey (.bool true)
  refine ⟨w', h1, ?_, h3⟩
  rw [setF_some, hn, setF_put] at h2
  simpa using h2

theorem set_look {w : World} {b : Nat} {R : List ByteArray} (h : MapIs w Try.prog 9 b R.length (setF R)) {s : ByteArray} (hs : s.size ≤ maxLen) {t : TypeId} (ht : Try.prog.underlying t = some (.map 9 4)) :
    (Instr.lookup t (.map (some b)) (.string s) false).run Try.prog w = .ok (.bool (inR R s)) w := by
  have hkey : keyOf Try.prog 9 (.string s) = some (keyL s) := keyOf_string_mk Try.underlying9 hs
  rw [h.look law9 ht (zero4 w) hkey, setF_at]

/-- the names that may be met: the user, and every role -/
def pool (u : ByteArray) (ls : List (ByteArray × ByteArray)) : List ByteArray := u :: ls.map (fun p => p.2)

/-- what is carried of the lists: none stands twice, all are from the pool, next is no longer than reached -/
structure Good (u : ByteArray) (ls : List (ByteArray × ByteArray)) (R N : List ByteArray) : Prop where
  nodup : R.Nodup
  from_ : ∀ a ∈ R, a ∈ pool u ls
  fromN : ∀ a ∈ N, a ∈ pool u ls
  le : N.length ≤ R.length

theorem Good.len {u : ByteArray} {ls : List (ByteArray × ByteArray)} {R N : List ByteArray} (h : Good u ls R N) : R.length ≤ ls.length + 1 := by
  have := List.Nodup.length_le_of_subset h.nodup (fun a ha => h.from_ a ha)
  simpa [pool] using this

theorem Good.step {u : ByteArray} {ls : List (ByteArray × ByteArray)} {R N : List ByteArray} (h : Good u ls R N) {r : ByteArray} (hr : r ∈ pool u ls) (hn : inR R r = false) : Good u ls (R ++ [r]) (N ++ [r]) := by
  have hn' : r ∉ R := fun q => by rw [inR_iff.2 q] at hn; cases hn
  refine ⟨?_, ?_, ?_, ?_⟩
  · rw [List.nodup_append]
    refine ⟨h.nodup, by simp, ?_⟩
    intro a ha b hb hab
    simp at hb
    subst hb
    subst hab
    exact hn' ha
  · intro a ha
    rcases List.mem_append.1 ha with q | q
    · exact h.from_ a q
    · simp at q
      subst q
      exact hr
  · intro a ha
    rcases List.mem_append.1 ha with q | q
    · exact h.fromN a q
    · simp at q
      subst q
      exact hr
  · have := h.le
    simp
    omega

theorem visit_new {R N : List ByteArray} {r : ByteArray} (h : inR R r = false) : Pure.visit (R, N) r = (R ++ [r], N ++ [r]) := by
  have hn' : r ∉ R := fun q => by rw [inR_iff.2 q] at h; cases h
  simp [Pure.visit, hn']
theorem visit_old {R N : List ByteArray} {r : ByteArray} (h : inR R r = true) : Pure.visit (R, N) r = (R, N) := by
  have hn' : r ∈ R := inR_iff.1 h
  simp [Pure.visit, hn']

/-- WHAT HOLDS BETWEEN TWO OPERATIONS: reached R, farthest F, next N. -/
structure WInv (w wr : World) (u : ByteArray) (ls : List (ByteArray × ByteArray)) (R F N : List ByteArray) (vF vN : Value) : Prop where
  set : MapIs wr Try.prog 9 w.heap.size R.length (setF R)
  far : wr.ownsRow (w.heap.size + 1) 9 1 vF F.length (F.map Value.string)
  next : wr.ownsRow (w.heap.size + 1) 9 1 vN N.length (N.map Value.string)
  apart : vN.ownBlock = none ∨ vN.ownBlock ≠ vF.ownBlock
  below : Below w.heap.size w wr
  good : Good u ls R N
  farFrom : ∀ a ∈ F, a ∈ pool u ls
  farLen : F.length ≤ ls.length + 1

theorem WInv.start {w w1 : World} {u : ByteArray} (ls : List (ByteArray × ByteArray)) (hM : MapIs w1 Try.prog 9 w.heap.size ([] ++ [u]).length (setF ([] ++ [u]))) (hg : (w.alloc (.map #[] 0)).grownBy w1 (some w.heap.size)) :
    WInv w (w1.alloc (.cells #[.string u] 9)) u ls [u] [u] [] (.slice (some ⟨w1.heap.size, 0, none⟩) 1 1) (.slice none 0 0) := by
  have hs : w.heap.size + 1 ≤ w1.heap.size := by have := hg.size; simpa using this
  have hb1 : Below w.heap.size w w1 := ((Below.refl w.heap.size w).alloc (Nat.le_refl _) _).grown hg (by simp) (fun k e => by cases e; exact Nat.le_refl _)
  refine ⟨hM.kept (Below.heap_alloc _ _ _ (by omega)), ?_, World.ownsRow_nil _ _ _ _, Or.inl rfl, hb1.alloc (by omega) _, ⟨by simp, by simp [pool], by simp, by simp⟩, by simp [pool], by simp⟩
  exact ⟨by simp, Or.inr ⟨w1.heap.size, 1, #[.string u], rfl, hs, heap_alloc_new _ _, Nat.le_refl _, by unfold maxLen; decide, by simp, by simp⟩⟩

theorem WInv.shift {w wr : World} {u : ByteArray} {ls : List (ByteArray × ByteArray)} {R F N : List ByteArray} {vF vN : Value} (h : WInv w wr u ls R F N vF vN) : WInv w wr u ls R N [] vN (.slice none 0 0) :=
  ⟨h.set, h.next, World.ownsRow_nil _ _ _ _, Or.inl rfl, h.below, ⟨h.good.nodup, h.good.from_, by simp, by simp⟩, h.good.fromN, Nat.le_trans h.good.le h.good.len⟩

/-- behind 'reached[role] = true; next = append(next, role)' -/
theorem WInv.visited {w wr w2 w3 : World} {u : ByteArray} {ls : List (ByteArray × ByteArray)} {R F N : List ByteArray} {vF vN : Value} {r : ByteArray} {g cap : Nat} (h : WInv w wr u ls R F N vF vN) (hr : r ∈ pool u ls) (hn : inR R r = false)
    (hM : MapIs w2 Try.prog 9 w.heap.size (R ++ [r]).length (setF (R ++ [r]))) (hg2 : wr.grownBy w2 (some w.heap.size)) (hg3 : (w2.alloc (.cells #[.string r] 9)).grownBy w3 vN.ownBlock)
    (ho : w3.ownsRow (w.heap.size + 1) 9 1 (.slice (some ⟨g, 0, none⟩) (N.length + 1) cap) (N.length + 1) (N.map Value.string ++ [.string r])) (hat : vN.ownBlock = some g ∨ g = w2.heap.size + 1) :
    WInv w w3 u ls (R ++ [r]) F (N ++ [r]) vF (.slice (some ⟨g, 0, none⟩) (N.length + 1) cap) := by
  have hbw := h.below.size
  have hs2 := hg2.size
  have hlt := hM.lt
  have hall : w2.grownBy w3 vN.ownBlock := (World.grownBy_alloc w2 (.cells #[.string r] 9) vN.ownBlock).trans hg3
  have hvN : ∀ k, vN.ownBlock = some k → w.heap.size + 1 ≤ k ∧ k < wr.heap.size := fun k e => h.next.lt k e
  have hvF : ∀ k, vF.ownBlock = some k → w.heap.size + 1 ≤ k ∧ k < wr.heap.size := fun k e => h.far.lt k e
  have hb2 : Below w.heap.size w w2 := h.below.grown hg2 hbw (fun k e => by cases e; exact Nat.le_refl _)
  refine ⟨hM.kept (hall.block _ hlt (fun e => by have := (hvN _ e.symm).1; omega)), ?_, by simpa using ho, ?_, hb2.grown hall (by omega) (fun k e => by have := (hvN k e).1; omega), h.good.step hr hn, h.farFrom, h.farLen⟩
  · have f2 := h.far.kept hg2 (by
      cases e : vF.ownBlock with
      | none => exact Or.inl rfl
      | some k => exact Or.inr (fun q => by have := (hvF k e).1; cases q; omega))
    exact f2.kept hall (by
      cases e : vF.ownBlock with
      | none => exact Or.inl rfl
      | some k =>
        rcases h.apart with a | a
        · rw [a]
          exact Or.inr (by simp)
        · exact Or.inr (fun q => a (by rw [e, q])))
  · right
    show some g ≠ vF.ownBlock
    intro q
    rcases hat with e | e
    · rcases h.apart with a | a
      · rw [a] at e
        cases e
      · exact a (by rw [e, q])
    · have := (hvF g q.symm).2
      omega

theorem pool_size {u : ByteArray} {ls : List (ByteArray × ByteArray)} (hu : u.size ≤ maxLen) (hsz : ∀ p ∈ ls, p.1.size ≤ maxLen ∧ p.2.size ≤ maxLen) {a : ByteArray} (h : a ∈ pool u ls) : a.size ≤ maxLen := by
  rcases List.mem_cons.1 h with rfl | h
  · exact hu
  · obtain ⟨p, hp, rfl⟩ := List.mem_map.1 h
    exact (hsz p hp).2

theorem role_pool (u : ByteArray) {ls : List (ByteArray × ByteArray)} {j : Nat} (hj : j < ls.length) : (ls.getD j dfl).2 ∈ pool u ls := by
  refine List.mem_cons_of_mem _ (List.mem_map.2 ⟨ls[j], List.getElem_mem hj, ?_⟩)
  simp [List.getD_eq_getElem?_getD, List.getElem?_eq_getElem hj]

/-- the c-th line of a member: all that a round reads -/
theorem FileAt.line {B : Nat} {w : World} {N : Nat} {ls : List (ByteArray × ByteArray)} (h : FileAt B w N ls) {v : Value} {s : ByteArray} (hv : RowAt B w v (idxsTo ls ls.length s)) {c : Nat} (hc : c < (idxsTo ls ls.length s).length) :
    ∃ (g cap gm cm j : Nat), v = .slice (some ⟨g, 0, none⟩) (idxsTo ls ls.length s).length cap ∧ w.cell? ⟨g, c, none⟩ = some (.int .i64 (j : Int)) ∧ j < ls.length ∧ (idxsTo ls ls.length s).getD c 0 = (j : Int) ∧
      w.cell? ⟨N + 3, 1, none⟩ = some (.slice (some ⟨gm, 0, none⟩) ls.length cm) ∧ w.cell? ⟨gm, j * 2 + 1, none⟩ = some (.string (ls.getD j dfl).2) ∧ gm < B := by
  rcases hv with ⟨e, _⟩ | ⟨g, cap, e, _, hcell⟩
  · rw [e] at hc
    simp at hc
  have hm : (idxsTo ls ls.length s).getD c 0 ∈ idxsTo ls ls.length s := by
    rw [List.getD_eq_getElem?_getD, List.getElem?_eq_getElem hc]
    exact List.getElem_mem hc
  have hz := idxs_lt hm
  obtain ⟨j, hj⟩ : ∃ j : Nat, (idxsTo ls ls.length s).getD c 0 = (j : Int) := ⟨((idxsTo ls ls.length s).getD c 0).toNat, by omega⟩
  have hjl : j < ls.length := by omega
  obtain ⟨vm, hvm, hmem⟩ := h.mem
  rcases hmem with ⟨e0, _⟩ | ⟨gm, cm, e1, hgm, hcm⟩
  · rw [e0] at hjl
    simp at hjl
  · exact ⟨g, cap, gm, cm, j, e, by rw [hcell c hc, hj], hjl, hj, by rw [hvm, e1], hcm j hjl, hgm⟩

/-- what an owned row of strings looks like -/
theorem strings_shape {w : World} {base : Nat} {v : Value} {F : List ByteArray} (h : w.ownsRow base 9 1 v F.length (F.map Value.string)) :
    ∃ (av : Option Addr) (cv : Nat), v = .slice av F.length cv ∧ (0 < F.length → ∃ g, av = some ⟨g, 0, none⟩ ∧ ∀ i, i < F.length → w.cell? ⟨g, i, none⟩ = some (.string (F.getD i ByteArray.empty))) := by
  rcases h.2 with ⟨e, h0⟩ | ⟨g, cap, cur, e, _⟩
  · exact ⟨none, 0, by rw [e, h0], fun q => by omega⟩
  · refine ⟨some ⟨g, 0, none⟩, cap, e, fun _ => ⟨g, rfl, fun i hi => ?_⟩⟩
    have hc := h
    rw [e] at hc
    rw [hc.cellAt i (by simpa using hi)]
    simp [List.getD, List.getElem?_eq_getElem hi]

/-- what withinMaxLinks leaves -/
def WithinPost (w : World) (ls : List (ByteArray × ByteArray)) (u : ByteArray) (e : Ending) (w' : World) : Prop :=
  ∃ vF, e = .returned (.tuple #[.map (some w.heap.size), vF]) ∧ MapIs w' Try.prog 9 w.heap.size (Pure.within ls u).1.length (setF (Pure.within ls u).1) ∧
    w'.ownsRow (w.heap.size + 1) 9 1 vF (Pure.within ls u).2.length ((Pure.within ls u).2.map Value.string) ∧ Below w.heap.size w w'

end Go.Proofs.Qxb6000458a
