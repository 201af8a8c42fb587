/-
  Seat b6000458a: the lines that came in, opened.
-/
import Derived.Test.Qxb6000458aBytes
import Derived.ProofKit
import Derived.OpenShut
import Derived.ShutString
import Derived.ChangeOld
import Derived.Below
import Derived.Deep.SlicePairs
namespace Go.Proofs.Qxb6000458a
open Go.ChangeShapes Go.WideShapes Go.ChangeAt Go.RowKit Go.Deep

theorem Try.own : ownKnob Try.prog.godebug = none := by kernel_rfl
theorem Try.cells40 : Try.prog.cellsOf 40 = 2 := by kernel_rfl
theorem Try.cells9o : Try.prog.cellsOf 9 = 1 := by kernel_rfl

/-- an address at which a cell is read has no spot -/
theorem plain_of_cell {w : World} {a : Addr} {v : Value} (h : w.cell? (a.add 0) = some v) : ∃ b off, a = ⟨b, off, none⟩ := by
  obtain ⟨b, off, spot⟩ := a
  have hspot : spot = none := by simpa [Addr.add] using World.cell?_spot h
  exact ⟨b, off, by rw [hspot]⟩

/-- the strings of a function on places, as a list -/
theorem getD_of_range (l : Nat) (S0 S1 : Nat → ByteArray) {i : Nat} (h : i < l) : ((List.range l).map fun i => (S0 i, S1 i)).getD i (ByteArray.empty, ByteArray.empty) = (S0 i, S1 i) := by
  rw [List.getD_eq_getElem?_getD, List.getElem?_map, List.getElem?_range h]
  rfl

theorem open_lines {H : Type} {enc : TypeId × Value → H} {W : World} {a : Option Addr} {len cap : Nat} {d : DataW H} {p : List MemPlace} (h : DataW.Trod enc Try.prog W 0 (fun _ => true) true 22 (.slice a len cap) d p) :
    ∃ ls, IsLines W a len cap ls ∧ ∀ q ∈ ls, q.1.size ≤ maxLen ∧ q.2.size ≤ maxLen := by
  obtain ⟨fuel, hf⟩ := h
  rcases open_slice_pairs Try.underlying22 Try.underlying40 Try.cells40 rfl rfl Try.cells9o Try.cells9o hf with ⟨hcs, _⟩ | ⟨x, l, c, m, n, V0, V1, D0, D1, P0, P1, hcs, _, hl, hm, hmm, _, hx⟩
  · simp [Value.cells] at hcs
    obtain ⟨rfl, rfl, rfl⟩ := hcs
    exact ⟨[], ⟨rfl, Nat.le_refl _, Nat.zero_le _, Or.inl rfl⟩, by simp⟩
  · simp [Value.cells] at hcs
    obtain ⟨rfl, rfl, rfl⟩ := hcs
    simp only [if_true] at hmm
    subst hmm
    have hstr : ∀ i, i < m → ∃ q : ByteArray × ByteArray, V0 i = .string q.1 ∧ V1 i = .string q.2 ∧ q.1.size ≤ maxLen ∧ q.2.size ≤ maxLen := by
      intro i hi
      obtain ⟨_, _, h0, h1⟩ := hx i hi
      obtain ⟨s0, e0, _, b0⟩ := DataW.trod_string Try.underlying9 h0
      obtain ⟨s1, e1, _, b1⟩ := DataW.trod_string Try.underlying9 h1
      exact ⟨(s0, s1), by simpa using e0, by simpa using e1, b0, b1⟩
    obtain ⟨q, hq⟩ := choose_lt hstr
    refine ⟨(List.range len).map fun i => ((q i).1, (q i).2), ⟨by simp, hl, hm, ?_⟩, ?_⟩
    · by_cases hlen : len = 0
      · exact Or.inl hlen
      · right
        obtain ⟨b, off, rfl⟩ := plain_of_cell (hx 0 (by omega)).1
        refine ⟨b, off, rfl, fun i hi => ?_⟩
        obtain ⟨c0, c1, _, _⟩ := hx i (by omega)
        obtain ⟨e0, e1, _, _⟩ := hq i (by omega)
        rw [getD_of_range len (fun i => (q i).1) (fun i => (q i).2) hi]
        rw [add_plain, e0] at c0
        rw [add_plain, e1] at c1
        exact ⟨c0, c1⟩
    · intro p hp
      obtain ⟨i, hi, rfl⟩ := List.mem_map.1 hp
      obtain ⟨_, _, b0, b1⟩ := hq i (by have := List.mem_range.1 hi; omega)
      exact ⟨b0, b1⟩

end Go.Proofs.Qxb6000458a
