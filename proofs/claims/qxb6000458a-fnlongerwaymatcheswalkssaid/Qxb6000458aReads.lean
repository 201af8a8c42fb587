/-
  Seat b6000458a: what the readers of a built file are told; it holds as long as the old blocks stand.
-/
import Derived.Test.Qxb6000458aBuild
import Derived.Test.Qxb6000458aPure
namespace Go.Proofs.Qxb6000458a
open Go.RowKit Go.WideMaps Go.Maps

/-- u is a slice of the numbers zs, below block B -/
def RowAt (B : Nat) (w : World) (u : Value) (zs : List Int) : Prop :=
  (zs = [] ∧ u = .slice none 0 0) ∨ ∃ g cap, u = .slice (some ⟨g, 0, none⟩) zs.length cap ∧ g < B ∧ ∀ i, i < zs.length → w.cell? ⟨g, i, none⟩ = some (.int .i64 (zs.getD i 0))

theorem RowAt.kept {B : Nat} {w w' : World} {u : Value} {zs : List Int} (h : RowAt B w u zs) (hb : Below B w w') : RowAt B w' u zs := by
  rcases h with h | ⟨g, cap, h1, h2, h3⟩
  · exact Or.inl h
  · exact Or.inr ⟨g, cap, h1, h2, fun i hi => (hb.cell h2).trans (h3 i hi)⟩

/-- the file and the index, below block B -/
structure FileAt (B : Nat) (w : World) (N : Nat) (ls : List (ByteArray × ByteArray)) : Prop where
  lo : N + 5 ≤ B
  hi : B ≤ w.heap.size
  mem : ∃ v, w.cell? ⟨N + 3, 1, none⟩ = some v ∧ ((ls = [] ∧ v = .slice none 0 0) ∨ ∃ g cap, v = .slice (some ⟨g, 0, none⟩) ls.length cap ∧ g < B ∧ ∀ i, i < ls.length → w.cell? ⟨g, i * 2 + 1, none⟩ = some (.string (ls.getD i dfl).2))
  idx : ∃ m f, MapIs w Try.prog 9 (N + 4) m f ∧ ∀ s : ByteArray, s.size ≤ maxLen → RowAt B w ((f (keyL s)).getD (.slice none 0 0)) (idxsTo ls ls.length s)

theorem FileAt.kept {B : Nat} {w w' : World} {N : Nat} {ls : List (ByteArray × ByteArray)} (h : FileAt B w N ls) (hb : Below B w w') : FileAt B w' N ls := by
  have hlo := h.lo
  refine ⟨h.lo, Nat.le_trans h.hi hb.size, ?_, ?_⟩
  · obtain ⟨v, h1, h2⟩ := h.mem
    refine ⟨v, (hb.cell (show N + 3 < B by omega)).trans h1, ?_⟩
    rcases h2 with h2 | ⟨g, cap, e, hg, hc⟩
    · exact Or.inl h2
    · exact Or.inr ⟨g, cap, e, hg, fun i hi => (hb.cell hg).trans (hc i hi)⟩
  · obtain ⟨m, f, h1, h2⟩ := h.idx
    exact ⟨m, f, h1.kept (hb.block (N + 4) (by omega)), fun s hs => (h2 s hs).kept hb⟩

theorem flat_getD : ∀ (ls : List (ByteArray × ByteArray)) (i : Nat), i < ls.length → (ls.flatMap fun p => [Value.string p.1, Value.string p.2])[i * 2 + 1]? = some (.string (ls.getD i dfl).2)
  | [], i, h => by simp at h
  | p :: ls, 0, _ => by simp
  | p :: ls, i + 1, h => by
    have := flat_getD ls i (by simpa using h)
    rw [List.flatMap_cons]
    have e : (i + 1) * 2 + 1 = (i * 2 + 1) + 2 := by omega
    rw [e]
    simpa using this

theorem BInv.fileAt {w w' : World} {N : Nat} {v : Value} {ls : List (ByteArray × ByteArray)} {D : DataW Unit} (h : BInv w w' N v ls.length ls.length ls D) (h4 : ls.length ≤ 4096) : FileAt w'.heap.size w' N ls := by
  refine ⟨h.size, Nat.le_refl _, ⟨v, fileObj_cell h.file, ?_⟩, ?_⟩
  · rcases h.mem.2 with ⟨e, h0⟩ | ⟨g, cap, cur, e, hg, hh, h1, h2, h3, ht⟩
    · exact Or.inl ⟨List.length_eq_zero_iff.1 h0, e⟩
    · refine Or.inr ⟨g, cap, e, (Array.getElem?_eq_some_iff.1 hh).1, fun i hi => ?_⟩
      rw [cell_of_row w' g _ _ _ _ hh]
      have hf := flat_getD ls i hi
      have ht' : cur.toList.take (ls.length * 2) = ls.flatMap fun p => [Value.string p.1, Value.string p.2] := by
        rw [ht]
        simp [flat]
      rw [← ht', List.getElem?_take_of_lt (by omega)] at hf
      simpa using hf
  · obtain ⟨es, clock, hb, F, r⟩ := h.grp
    obtain ⟨f, hf⟩ := MapIs.of_fit hb F
    refine ⟨_, f, hf, fun s hs => ?_⟩
    have hkey : keyOf Try.prog 9 (.string s) = some (keyL s) := keyOf_string_mk Try.underlying9 hs
    obtain ⟨u, zs, hrun, hat, hoi, hzl, _⟩ := h.grp.at law9 Try.underlying26 (zero34 w') (by unfold maxLen; omega) hkey
    have hzs : zs = idxsTo ls ls.length s := rows_are hoi (by rw [← hat]; exact h.datum s)
    have h1 := hf.look law9 Try.underlying26 (zero34 w') hkey
    rw [hrun] at h1
    have e : u = (f (keyL s)).getD (.slice none 0 0) := by simpa using h1
    rw [← e, ← hzs]
    rcases hoi.1.2 with ⟨e1, h0⟩ | ⟨g, cap, cur, e1, _, hh, _⟩
    · exact Or.inl ⟨List.length_eq_zero_iff.1 h0, e1⟩
    · refine Or.inr ⟨g, cap, e1, (Array.getElem?_eq_some_iff.1 hh).1, fun i hi => ?_⟩
      have hc := hoi.1
      rw [e1] at hc
      have := hc.cellAt i (by omega)
      rw [this]
      simp [List.getD, List.getElem?_eq_getElem hi]

/-! ### the places and the roles -/
/-- the role at a place -/
def roleAt (ls : List (ByteArray × ByteArray)) (z : Int) : ByteArray := (ls.getD z.toNat dfl).2

theorem outs_aux (ls : List (ByteArray × ByteArray)) (s : ByteArray) : ∀ k, k ≤ ls.length → (idxsTo ls k s).map (roleAt ls) = Pure.outs (ls.take k) s
  | 0, _ => rfl
  | k + 1, h => by
    have ih := outs_aux ls s k (by omega)
    have hk : k < ls.length := by omega
    have hg : ls.getD k dfl = ls[k] := by simp [List.getD_eq_getElem?_getD, List.getElem?_eq_getElem hk]
    rw [List.take_succ_eq_append_getElem hk]
    unfold Pure.outs
    rw [List.filter_append, List.map_append]
    by_cases e : ls[k].1 = s
    · have e' : s = (ls.getD k dfl).1 := by rw [hg, e]
      rw [e', idxsTo_hit, ← e', List.map_append, ih]
      simp [Pure.outs, e, roleAt, List.getElem?_eq_getElem hk]
    · rw [idxsTo_miss ls k (by rw [hg]; exact e), ih]
      simp [Pure.outs, e]

theorem outs_eq (ls : List (ByteArray × ByteArray)) (s : ByteArray) : Pure.outs ls s = (idxsTo ls ls.length s).map (roleAt ls) := by
  rw [outs_aux ls s ls.length (Nat.le_refl _), List.take_length]

theorem idxs_lt {ls : List (ByteArray × ByteArray)} {k : Nat} {s : ByteArray} {z : Int} (h : z ∈ idxsTo ls k s) : 0 ≤ z ∧ z < k := by
  obtain ⟨i, hi, rfl⟩ := List.mem_map.1 h
  have := List.mem_range.1 (List.mem_filter.1 hi).1
  omega

theorem idxs_length (ls : List (ByteArray × ByteArray)) (k : Nat) (s : ByteArray) : (idxsTo ls k s).length ≤ k := by
  unfold idxsTo
  rw [List.length_map]
  have := List.length_filter_le (fun i => decide ((ls.getD i dfl).1 = s)) (List.range k)
  simpa using this

end Go.Proofs.Qxb6000458a
