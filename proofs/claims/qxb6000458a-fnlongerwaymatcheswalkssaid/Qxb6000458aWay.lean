/-
  Seat b6000458a: longerWay: its keys, its answers.
-/
import Derived.Test.Qxb6000458aWithin
import Derived.DeepKeys4
namespace Go.Proofs.Qxb6000458a
open Go.RowKit Go.WideMaps Go.Maps

theorem Try.laidOut : laidOutB Try.prog = true := by kernel_rfl
theorem Try.row64 : (64 : TypeId) < Try.prog.types.size := of_decide_eq_true (by kernel_rfl)
theorem Try.wide64 : (match Try.prog.underlying 64 with | some (.array _ _) | some (.struct _) => true | _ => false) = true := by kernel_rfl
theorem Try.at64 : Try.prog.keyTypeAt 2 64 = true := by kernel_rfl
set_option maxRecDepth 100000 in
theorem law64 : Keyed Try.prog 64 := Keyed.of_law (deep_law_laid Try.laidOut (m := 2) (by omega) Try.row64 Try.at64 Try.wide64)
theorem Try.key64 : Try.prog.keyType 64 = true := by kernel_rfl
theorem Try.cells64 : Try.prog.cellsOf 64 = 2 := by kernel_rfl
theorem Try.cells9 : Try.prog.cellsOf 9 = 1 := by kernel_rfl
theorem Try.cells3 : Try.prog.cellsOf 3 = 1 := by kernel_rfl
theorem Try.tsize : Try.prog.types.size = 132 := by kernel_rfl

/-- the question as a value -/
def wayV (s : ByteArray) (l : Int) : Value := .agg #[.string s, .int .i64 l]

theorem way_key (s : ByteArray) (l : Int) (hs : s.size ≤ maxLen) (hl : (Lit.int .i64 l).wf = true) : ∃ kl, keyOf Try.prog 64 (wayV s l) = some kl := by
  obtain ⟨n, hn⟩ : ∃ n, Try.prog.types.size + 1 = n + 2 := ⟨131, by rw [Try.tsize]⟩
  have h9 : Try.prog.keyLits (n + 1) 9 [.string s] = some [.string s.data.toList] := by
    unfold Program.keyLits
    simp only [Try.underlying9]
    rw [if_pos hs]
  have h3 : Try.prog.keyLits (n + 1) 3 [.int .i64 l] = some [.int .i64 l] := by
    unfold Program.keyLits
    simp only [Try.underlying3]
    rw [if_pos ⟨trivial, hl⟩]
  unfold keyOf wayV
  simp only [Try.underlying64, Try.key64, Value.formed, Try.cells64, hn]
  unfold Program.keyLits
  simp only [Try.underlying64, Try.cells64, Value.cells]
  simp [Try.cells9, Try.cells3, h9, h3]

/-- the question as a key -/
def wayLit (P : Program) (s : ByteArray) (l : Nat) : Lit := (keyOf P 64 (wayV s l)).getD .nil
theorem wayL_eq {s : ByteArray} {l : Nat} (hs : s.size ≤ maxLen) (hl : l ≤ 4096) : keyOf Try.prog 64 (wayV s l) = some (wayLit Try.prog s l) := by
  obtain ⟨kl, h⟩ := way_key s l hs (WalkArith.wf_i64 (by omega))
  unfold wayLit
  rw [h]
  rfl
theorem wayL_inj {s t : ByteArray} {l m : Nat} (hs : s.size ≤ maxLen) (hl : l ≤ 4096) (ht : t.size ≤ maxLen) (hm : m ≤ 4096) (h : wayLit Try.prog s l = wayLit Try.prog t m) : s = t ∧ l = m := by
  have h1 := wayL_eq hs hl
  have h2 := wayL_eq ht hm
  rw [← h] at h2
  have := law64.inj h1 h2
  simp [wayV] at this
  exact ⟨this.1, by omega⟩

/-- THE ANSWERS KEPT SO FAR: each is the true one. -/
structure Ans (wr : World) (A : Nat) (u : ByteArray) (ls : List (ByteArray × ByteArray)) (K : List (ByteArray × Nat)) (f : Lit → Option Value) : Prop where
  map : MapIs wr Try.prog 64 A K.length f
  nodup : K.Nodup
  from_ : ∀ p ∈ K, p.1 ∈ pool u ls ∧ p.2 ≤ 4096
  yes : ∀ s l, s.size ≤ maxLen → l ≤ 4096 → (s, l) ∈ K → f (wayLit Try.prog s l) = some (.bool (Pure.lw ls (l + 1) s))
  no : ∀ s l, s.size ≤ maxLen → l ≤ 4096 → (s, l) ∉ K → f (wayLit Try.prog s l) = none

def AnsAt (wr : World) (A : Nat) (u : ByteArray) (ls : List (ByteArray × ByteArray)) : Prop := ∃ K f, Ans wr A u ls K f

theorem AnsAt.lt {wr : World} {A : Nat} {u : ByteArray} {ls : List (ByteArray × ByteArray)} (h : AnsAt wr A u ls) : A < wr.heap.size := by
  obtain ⟨K, f, h⟩ := h
  exact h.map.lt

theorem AnsAt.made (w : World) (u : ByteArray) (ls : List (ByteArray × ByteArray)) : AnsAt (w.alloc (.map #[] 0)) w.heap.size u ls :=
  ⟨[], _, MapIs.made w Try.prog 64, by simp, by simp, by simp, fun _ _ _ _ _ => rfl⟩

theorem AnsAt.kept {wr x : World} {A : Nat} {u : ByteArray} {ls : List (ByteArray × ByteArray)} (h : AnsAt wr A u ls) (hx : x.heap[A]? = wr.heap[A]?) : AnsAt x A u ls := by
  obtain ⟨K, f, h⟩ := h
  exact ⟨K, f, h.map.kept hx, h.nodup, h.from_, h.yes, h.no⟩

theorem length_prod (ps : List ByteArray) (n : Nat) : (ps.flatMap fun s => (List.range n).map fun l => (s, l)).length = ps.length * n := by
  induction ps with
  | nil => simp
  | cons p ps ih =>
    rw [List.flatMap_cons, List.length_append, ih]
    simp [Nat.succ_mul]
    omega

theorem Ans.len {wr : World} {A : Nat} {u : ByteArray} {ls : List (ByteArray × ByteArray)} {K : List (ByteArray × Nat)} {f : Lit → Option Value} (h : Ans wr A u ls K f) : K.length ≤ (ls.length + 1) * 4097 := by
  have := List.Nodup.length_le_of_subset (l₂ := (pool u ls).flatMap fun s => (List.range 4097).map fun l => (s, l)) h.nodup (fun p hp => by
    obtain ⟨h1, h2⟩ := h.from_ p hp
    exact List.mem_flatMap.2 ⟨p.1, h1, List.mem_map.2 ⟨p.2, List.mem_range.2 (by omega), rfl⟩⟩)
  rw [length_prod] at this
  simpa [pool] using this

/-- 'longer, ok := answers[w]' -/
theorem AnsAt.look {wr : World} {A : Nat} {u : ByteArray} {ls : List (ByteArray × ByteArray)} (h : AnsAt wr A u ls) {s : ByteArray} {l : Nat} (hs : s.size ≤ maxLen) (hl : l ≤ 4096) :
    (∀ x : World, x.heap[A]? = wr.heap[A]? → (Instr.lookup 43 (.map (some A)) (wayV s l) true).run Try.prog x = .ok (.tuple #[.bool (Pure.lw ls (l + 1) s), .bool true]) x) ∨
    (∀ x : World, x.heap[A]? = wr.heap[A]? → (Instr.lookup 43 (.map (some A)) (wayV s l) true).run Try.prog x = .ok (.tuple #[.bool false, .bool false]) x) := by
  obtain ⟨K, f, h⟩ := h
  by_cases hm : (s, l) ∈ K
  · left
    intro x hx
    rw [(h.map.kept hx).lookOk law64 Try.underlying43 (zero4 x) (wayL_eq hs hl), h.yes s l hs hl hm]
    rfl
  · right
    intro x hx
    rw [(h.map.kept hx).lookOk law64 Try.underlying43 (zero4 x) (wayL_eq hs hl), h.no s l hs hl hm]
    rfl

theorem keyLit_of {P : Program} {k : TypeId} {v : Value} {l : Lit} (K : Keyed P k) (h : keyOf P k v = some l) : WideAt.IsKeyLit l := K.key h

/-- 'answers[w] = longer' -/
theorem AnsAt.put {wr : World} {A : Nat} {u : ByteArray} {ls : List (ByteArray × ByteArray)} (h : AnsAt wr A u ls) (h4 : ls.length ≤ 4096) {s : ByteArray} {l : Nat} (hp : s ∈ pool u ls) (hs : s.size ≤ maxLen) (hl : l ≤ 4096) :
    ∃ w', (Instr.mapUpdate 43 (.map (some A)) (wayV s l) (.bool (Pure.lw ls (l + 1) s))).run Try.prog wr = .ok () w' ∧ AnsAt w' A u ls ∧ wr.grownBy w' (some A) := by
  obtain ⟨K, f, h⟩ := h
  have hlen := h.len
  have hkey := wayL_eq hs hl
  obtain ⟨kl, hkw⟩ : ∃ kl, kl = wayLit Try.prog s l := ⟨_, rfl⟩
  rw [← hkw] at hkey
  have hkl : WideAt.IsKeyLit kl := keyLit_of law64 hkey
  obtain ⟨w', h1, h2, h3⟩ := h.map.put law64 Try.underlying43 (by unfold maxLen; omega) hkey (.bool (Pure.lw ls (l + 1) s))
  refine ⟨w', h1, ?_, h3⟩
  have hsame := putF_same f hkl (.bool (Pure.lw ls (l + 1) s))
  clear hkl
  rw [hkw] at h2 hsame
  by_cases hm : (s, l) ∈ K
  · rw [h.yes s l hs hl hm] at h2
    refine ⟨K, _, h2, h.nodup, h.from_, fun t m ht hm' htm => ?_, fun t m ht hm' htm => ?_⟩
    · by_cases e : wayLit Try.prog t m = wayLit Try.prog s l
      · obtain ⟨rfl, rfl⟩ := wayL_inj ht hm' hs hl e
        exact hsame
      · rw [putF_other f e]
        exact h.yes t m ht hm' htm
    · have e : wayLit Try.prog t m ≠ wayLit Try.prog s l := fun e => by
        obtain ⟨rfl, rfl⟩ := wayL_inj ht hm' hs hl e
        exact htm hm
      rw [putF_other f e]
      exact h.no t m ht hm' htm
  · rw [h.no s l hs hl hm] at h2
    refine ⟨K ++ [(s, l)], _, by simpa using h2, ?_, ?_, fun t m ht hm' htm => ?_, fun t m ht hm' htm => ?_⟩
    · rw [List.nodup_append]
      refine ⟨h.nodup, by simp, ?_⟩
      intro a ha b hb hab
      simp at hb
      subst hb
      subst hab
      exact hm ha
    · intro p hp'
      rcases List.mem_append.1 hp' with q | q
      · exact h.from_ p q
      · simp at q
        subst q
        exact ⟨hp, hl⟩
    · by_cases e : wayLit Try.prog t m = wayLit Try.prog s l
      · obtain ⟨rfl, rfl⟩ := wayL_inj ht hm' hs hl e
        exact hsame
      · rw [putF_other f e]
        refine h.yes t m ht hm' ?_
        rcases List.mem_append.1 htm with q | q
        · exact q
        · simp at q
          obtain ⟨rfl, rfl⟩ := q
          exact absurd rfl e
    · have e : wayLit Try.prog t m ≠ wayLit Try.prog s l := fun e => by
        obtain ⟨rfl, rfl⟩ := wayL_inj ht hm' hs hl e
        exact htm (by simp)
      rw [putF_other f e]
      exact h.no t m ht hm' (fun q => htm (List.mem_append.2 (Or.inl q)))

end Go.Proofs.Qxb6000458a
