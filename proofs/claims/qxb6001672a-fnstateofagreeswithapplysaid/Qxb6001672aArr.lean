/-
  A row of cells that the call itself has made, told whole; over any program.
-/
import Derived.WalkKit
namespace Go.Proofs.Qxb6001672a
open Go.RowKit

/-- BLOCK g IS THE ROW xs -/
def RowIs (w : World) (g : Nat) (e : TypeId) (xs : List Value) : Prop := w.heap[g]? = some (.cells xs.toArray e (0, 0))

section
variable {w : World} {g : Nat} {e : TypeId} {xs : List Value}
theorem RowIs.cell (h : RowIs w g e xs) (i : Nat) : w.cell? ⟨g, i, none⟩ = xs[i]? := by
  rw [cell_of_row w g i _ _ _ h]
  simp
theorem RowIs.cellD (h : RowIs w g e xs) {i : Nat} (hi : i < xs.length) (z : Value) : w.cell? ⟨g, i, none⟩ = some (xs.getD i z) := by
  rw [h.cell, List.getD_eq_getElem?_getD, List.getElem?_eq_getElem hi]
  rfl
theorem RowIs.free (h : RowIs w g e xs) (i : Nat) : w.frozen? ⟨g, i, none⟩ = false := frozen_of_row w g i _ e h
theorem RowIs.set (h : RowIs w g e xs) (i : Nat) (v : Value) : RowIs (w.setCell ⟨g, i, none⟩ v) g e (xs.set i v) := by
  have h' : w.heap[g]? = some (.cells xs.toArray e (0, 0)) := h
  show (w.setCell ⟨g, i, none⟩ v).heap[g]? = _
  simp only [World.setCell, Array.getElem?_modify, h']
  simp
theorem RowIs.kept (h : RowIs w g e xs) {x : World} (hx : x.heap[g]? = w.heap[g]?) : RowIs x g e xs := hx.trans h
theorem RowIs.lt (h : RowIs w g e xs) : g < w.heap.size := lt_of_block h
theorem RowIs.setOther (h : RowIs w g e xs) {a : Addr} (ha : g ≠ a.block) (v : Value) : RowIs (w.setCell a v) g e xs := h.kept (Below.heap_setCell _ _ _ _ ha)
theorem RowIs.alloc (h : RowIs w g e xs) (o : Obj) : RowIs (w.alloc o) g e xs := h.kept (Below.heap_alloc _ _ _ h.lt)
theorem RowIs.made (w : World) (e : TypeId) (xs : List Value) : RowIs (w.alloc (.cells xs.toArray e)) w.heap.size e xs := heap_alloc_new w _
end

/-- 'make([]T, n)': the row of n zeros -/
theorem make_row {P : Program} (t e : TypeId) (z : Value) (bytes : Nat) (ht : P.underlying t = some (.slice e)) (hi : (P.info? e).map (fun i => (i.zero, i.size, i.bytes)) = some (some z, 1, bytes)) (hz : z.cells = #[z]) (n : Nat) (hb : bytes * n ≤ 281474976710656) (h63 : n ≤ 9223372036854775807) (w : World) :
    (Instr.makeSlice t (.int .i64 n) (.int .i64 n)).run P w = .ok (.slice (some ⟨w.heap.size, 0, none⟩) n n) (w.alloc (.cells (List.replicate n z).toArray e)) := by
  obtain ⟨i, h2, h3, h4, h5⟩ := info_parts hi
  have hb' : (i.bytes : Int) * (n : Int) ≤ 281474976710656 := by
    rw [h5]
    have : ((bytes * n : Nat) : Int) ≤ 281474976710656 := by omega
    simpa using this
  have h := run_make w t e i z ht h2 h3 .i64 .i64 (n : Int) (n : Int) (by omega) (by omega) hb' (by omega)
  have e1 : madeCells z.cells (n * i.size) = (List.replicate n z).toArray := by
    rw [h4, hz, Nat.mul_one]
    apply Array.ext
    · simp [madeCells]
    · intro j h1 h2
      simp [madeCells, Nat.mod_one]
  simp only [Int.toNat_natCast] at h
  rw [e1] at h
  exact h

/-! ### a row filled from its head on -/
/-- xs, and behind it z up to n in all -/
def fill {α : Type} (xs : List α) (n : Nat) (z : α) : List α := xs ++ List.replicate (n - xs.length) z
theorem fill_nil {α : Type} (n : Nat) (z : α) : fill [] n z = List.replicate n z := by simp [fill]
theorem fill_length {α : Type} {xs : List α} {n : Nat} (h : xs.length ≤ n) (z : α) : (fill xs n z).length = n := by simp [fill]; omega
theorem fill_full {α : Type} {xs : List α} {n : Nat} (h : xs.length = n) (z : α) : fill xs n z = xs := by simp [fill, h]
theorem fill_set {α : Type} {xs : List α} {n : Nat} (h : xs.length < n) (z x : α) : (fill xs n z).set xs.length x = fill (xs ++ [x]) n z := by
  unfold fill
  rw [List.set_append, if_neg (by omega), Nat.sub_self]
  obtain ⟨m, hm⟩ : ∃ m, n - xs.length = m + 1 := ⟨n - xs.length - 1, by omega⟩
  rw [hm, List.replicate_succ]
  simp
  congr 1
  omega
theorem fill_map {α β : Type} (f : α → β) (xs : List α) (n : Nat) (z : α) : (fill xs n z).map f = fill (xs.map f) n (f z) := by simp [fill]

end Go.Proofs.Qxb6001672a
