/-
  Seat b6001672a: slices of one-cell values, that came in or that the call made; opened; cloned.
-/
import Derived.Test.Qxb6001672aArr
import Derived.Test.Qxb6001672aWindow
import Derived.ProofKit
import Derived.Deep.Slices
import Derived.Lib.SliceRun
namespace Go.Proofs.Qxb6001672a
open Go.RowKit

/-- WHAT THE WALK IS TOLD OF A SLICE OF INTEGERS THAT CAME IN (the shell's own words): it is nil; or it leads to a row of 'cap' cells, the numbers 'zs'. -/
def IsRow (k : IntKind) (w : World) (a : Option Addr) (len cap : Nat) (zs : List Int) : Prop :=
  (a = none ∧ len = 0 ∧ cap = 0 ∧ zs = []) ∨
  ∃ x, a = some x ∧ len ≤ cap ∧ cap ≤ maxLen ∧ zs.length = cap ∧ (∀ i, i < zs.length → w.cell? (x.add i) = some (.int k (zs.getD i 0))) ∧ ∀ n ∈ zs, (Lit.int k n).wf = true

/-- a slice at address a has the elements xs, below block B -/
def SliceAt (B : Nat) (w : World) (a : Option Addr) (xs : List Value) : Prop :=
  xs = [] ∨ ∃ b off, a = some ⟨b, off, none⟩ ∧ b < B ∧ ∀ i, i < xs.length → w.cell? ⟨b, off + i, none⟩ = some (xs.getD i undef)

theorem SliceAt.kept {B : Nat} {w x : World} {a : Option Addr} {xs : List Value} (h : SliceAt B w a xs) (hb : Below B w x) : SliceAt B x a xs := by
  rcases h with h | ⟨b, off, e, hB, hc⟩
  · exact Or.inl h
  · exact Or.inr ⟨b, off, e, hB, fun i hi => (hb.cell hB).trans (hc i hi)⟩
theorem SliceAt.mono {B B' : Nat} {w : World} {a : Option Addr} {xs : List Value} (h : SliceAt B w a xs) (hb : B ≤ B') : SliceAt B' w a xs := by
  rcases h with h | ⟨b, off, e, hB, hc⟩
  · exact Or.inl h
  · exact Or.inr ⟨b, off, e, by omega, hc⟩
theorem SliceAt.cell {B : Nat} {w : World} {a : Option Addr} {xs : List Value} (h : SliceAt B w a xs) {i : Nat} (hi : i < xs.length) : ∃ b off, a = some ⟨b, off, none⟩ ∧ b < B ∧ w.cell? ⟨b, off + i, none⟩ = some (xs.getD i undef) := by
  rcases h with h | ⟨b, off, e, hB, hc⟩
  · rw [h] at hi
    simp at hi
  · exact ⟨b, off, e, hB, hc i hi⟩
theorem SliceAt.of_row {w : World} {g : Nat} {e : TypeId} {xs : List Value} (h : RowIs w g e xs) : SliceAt w.heap.size w (some ⟨g, 0, none⟩) xs :=
  Or.inr ⟨g, 0, rfl, h.lt, fun i hi => by rw [Nat.zero_add]; exact h.cellD hi undef⟩

/-- an address at which a cell is read has no spot -/
theorem plain_of_cell {w : World} {a : Addr} {v : Value} (h : w.cell? (a.add 0) = some v) : ∃ b off, a = ⟨b, off, none⟩ := by
  obtain ⟨b, off, spot⟩ := a
  have hspot : spot = none := by simpa [Addr.add] using World.cell?_spot h
  exact ⟨b, off, by rw [hspot]⟩

theorem SliceAt.of_isRow {k : IntKind} {w : World} {a : Option Addr} {len cap : Nat} {zs : List Int} (h : IsRow k w a len cap zs) : SliceAt w.heap.size w a ((zs.take len).map (Value.int k)) := by
  rcases h with ⟨_, e, _, _⟩ | ⟨x, e, hl, _, hz, hc, _⟩
  · left
    simp [e]
  · by_cases h0 : len = 0
    · left
      simp [h0]
    · right
      obtain ⟨b, off, rfl⟩ := plain_of_cell (hc 0 (by omega))
      refine ⟨b, off, e, World.block_lt_of_cell? w _ (hc 0 (by omega)), fun i hi => ?_⟩
      have hi' : i < len := by simp at hi; omega
      have := hc i (by omega)
      rw [Go.WideShapes.add_plain] at this
      have hiz : i < zs.length := by omega
      have e1 : zs.getD i 0 = zs[i] := by rw [List.getD_eq_getElem?_getD, List.getElem?_eq_getElem hiz]; rfl
      have e2 : ((zs.take len).map (Value.int k)).getD i undef = .int k zs[i] := by
        rw [List.getD_eq_getElem?_getD, List.getElem?_map, List.getElem?_take_of_lt hi', List.getElem?_eq_getElem hiz]
        rfl
      rw [this, e1, e2]

/-- WHAT IS TOLD OF A SLICE OF BOOLS THAT CAME IN -/
def IsBools (w : World) (a : Option Addr) (len cap : Nat) (bs : List Bool) : Prop :=
  bs.length = len ∧ len ≤ cap ∧ cap ≤ maxLen ∧ (a = none → cap = 0) ∧ SliceAt w.heap.size w a (bs.map Value.bool)

theorem open_boolRow {H : Type} {enc : TypeId × Value → H} {W : World} {a : Option Addr} {len cap : Nat} {d : DataW H} {p : List MemPlace} (h : DataW.Trod enc Try.prog W 0 (fun _ => true) true 38 (.slice a len cap) d p) : ∃ bs, IsBools W a len cap bs := by
  obtain ⟨fuel, hf⟩ := h
  rcases Go.Deep.open_slice Try.underlying38 hf with ⟨hcs, _⟩ | ⟨x, l, c, m, n, D, Pl, hcs, _, hl, hm, hmm, _, hx⟩
  · simp [Value.cells] at hcs
    obtain ⟨rfl, rfl, rfl⟩ := hcs
    exact ⟨[], rfl, Nat.le_refl _, Nat.zero_le _, fun _ => rfl, Or.inl rfl⟩
  · simp [Value.cells] at hcs
    obtain ⟨rfl, rfl, rfl⟩ := hcs
    simp only [if_true] at hmm
    subst hmm
    have hc1 : Try.prog.cellsOf 4 = 1 := by kernel_rfl
    have hb : ∀ i, i < m → ∃ b : Bool, W.cell? (x.add i) = some (.bool b) := by
      intro i hi
      obtain ⟨cs', h1, h2⟩ := hx i hi
      rw [hc1, Nat.mul_one] at h1
      obtain ⟨b, e, _⟩ := DataW.trod_bool Try.underlying4 h2
      subst e
      obtain ⟨_, _, hcell⟩ := World.cells?_some h1
      have := hcell 0 (by simp)
      exact ⟨b, by simpa [Go.Deep.add_add] using this⟩
    obtain ⟨f, hf'⟩ := Go.Deep.choose_lt hb
    refine ⟨(List.range len).map f, by simp, hl, hm, (fun e => by cases e), ?_⟩
    by_cases h0 : len = 0
    · left
      simp [h0]
    · right
      obtain ⟨b, off, rfl⟩ := plain_of_cell (hf' 0 (by omega))
      refine ⟨b, off, rfl, World.block_lt_of_cell? W _ (hf' 0 (by omega)), fun i hi => ?_⟩
      have hi' : i < len := by simpa using hi
      have := hf' i (by omega)
      rw [Go.WideShapes.add_plain] at this
      rw [this, List.getD_eq_getElem?_getD, List.getElem?_map, List.getElem?_map, List.getElem?_range hi']
      rfl

end Go.Proofs.Qxb6001672a
