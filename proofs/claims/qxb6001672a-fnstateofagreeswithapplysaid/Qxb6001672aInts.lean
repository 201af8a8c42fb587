/-
  Seat b6001672a: intValues (a struct of values, states and a mark), its states, walked.
-/
import Derived.Test.Qxb6001672aClones
import Derived.Laws.Cover3
import Derived.Deep.RegionHeld3
import Derived.Deep.QuietTactic
import Derived.BigQuiet
import Derived.WalkSmall
namespace Go.Proofs.Qxb6001672a
open Go.RowKit

theorem Try.info86 : (Try.prog.info? 86).map (fun i => (i.zero, i.size, i.bytes)) = some (some (.int .u8 0), 1, 1) := by kernel_rfl

/-! ### all of a row's cells set at once -/
theorem RowIs.setCells_at {g : Nat} {e : TypeId} : ∀ (ys : List Value) (xs pre : List Value) (w : World), RowIs w g e (pre ++ xs) → ys.length = xs.length → RowIs (w.setCells g pre.length ys) g e (pre ++ ys)
  | [], xs, pre, w, h, hl => by
    have : xs = [] := List.length_eq_zero_iff.1 hl.symm
    rw [this] at h
    exact h
  | y :: ys, [], pre, w, h, hl => by simp at hl
  | y :: ys, x :: xs, pre, w, h, hl => by
    have h1 := h.set pre.length y
    rw [List.set_append_right _ _ (Nat.le_refl _), Nat.sub_self, List.set_cons_zero] at h1
    have h2 := RowIs.setCells_at ys xs (pre ++ [y]) (w.setCell ⟨g, pre.length, none⟩ y) (by simpa using h1) (by simpa using hl)
    rw [List.length_append, List.length_singleton] at h2
    simpa [World.setCells] using h2
theorem RowIs.setCells {g : Nat} {e : TypeId} {xs : List Value} {w : World} (h : RowIs w g e xs) (ys : List Value) (hl : ys.length = xs.length) : RowIs (w.setCells g 0 ys) g e ys := by
  have := RowIs.setCells_at ys xs [] w (by simpa using h) hl
  simpa using this

/-- w' is w, but for the block that sa leads to, and for what is new -/
structure KB (sa : Option Addr) (w w' : World) : Prop where
  base : Below 0 w w'
  others : ∀ k, k < w.heap.size → (∀ x, sa = some x → x.block ≠ k) → w'.heap[k]? = w.heap[k]?
theorem KB.refl (sa : Option Addr) (w : World) : KB sa w w := ⟨Below.refl _ _, fun _ _ _ => rfl⟩
theorem KB.trans {sa : Option Addr} {a b c : World} (h : KB sa a b) (k : KB sa b c) : KB sa a c :=
  ⟨h.base.trans k.base, fun i hi hx => (k.others i (Nat.lt_of_lt_of_le hi h.base.size) hx).trans (h.others i hi hx)⟩
theorem KB.of_below {sa : Option Addr} {w w' : World} (h : Below w.heap.size w w') : KB sa w w' := ⟨h.mono (Nat.zero_le _), fun k hk _ => h.block k hk⟩
theorem KB.below {sa : Option Addr} {w w' : World} (h : KB sa w w') {B : Nat} (hB : B ≤ w.heap.size) (hs : ∀ x, sa = some x → B ≤ x.block) : Below B w w' :=
  ⟨h.base.os, h.base.tape, h.base.output, h.base.size, fun k hk => h.others k (by omega) (fun x hx => by have := hs x hx; omega)⟩

/-- AN intValues at block g: its values, its states us at sa, its mark -/
structure IV (w : World) (B g : Nat) (vals : Value) (sa : Option Addr) (us : List Int) (p : Bool) : Prop where
  row : RowIs w g 90 [vals, .slice sa us.length us.length, .bool p, .int .i64 0, .int .u8 0]
  own : B ≤ g
  st : (sa = none ∧ us = []) ∨ ∃ gs, sa = some ⟨gs, 0, none⟩ ∧ gs ≠ g ∧ B ≤ gs ∧ RowIs w gs 86 (us.map (Value.int .u8))

theorem IV.ge {w : World} {B g : Nat} {vals : Value} {sa : Option Addr} {us : List Int} {p : Bool} (h : IV w B g vals sa us p) : ∀ x, sa = some x → B ≤ x.block := by
  intro x hx
  rcases h.st with ⟨e, _⟩ | ⟨gs, e, _, h2, _⟩
  · rw [e] at hx
    cases hx
  · rw [e] at hx
    cases hx
    exact h2
/-- an intValues is kept where its two blocks are -/
theorem IV.kept {w x : World} {B g : Nat} {vals : Value} {sa : Option Addr} {us : List Int} {p : Bool} (h : IV w B g vals sa us p) (h1 : x.heap[g]? = w.heap[g]?) (h2 : ∀ gs, sa = some ⟨gs, 0, none⟩ → gs < w.heap.size → x.heap[gs]? = w.heap[gs]?) : IV x B g vals sa us p := by
  refine ⟨h.row.kept h1, h.own, ?_⟩
  rcases h.st with q | ⟨gs, e, q1, q2, q3⟩
  · exact Or.inl q
  · exact Or.inr ⟨gs, e, q1, q2, q3.kept (h2 gs e q3.lt)⟩

/-- the states, as states() leaves them -/
def stz (p : Bool) (us : List Int) : List Int := if p then List.replicate us.length 0 else us
theorem stz_length (p : Bool) (us : List Int) : (stz p us).length = us.length := by unfold stz; split <;> simp
theorem stz_stz (p : Bool) (us : List Int) : stz p (stz p us) = stz p us := by unfold stz; split <;> simp

theorem zero86 (w : World) : (zeroValue 86).run Try.prog w = .ok (.int .u8 0) w := by kernel_rfl

theorem below_setCells0 {B g : Nat} {a w : World} (h : Below B a w) (hg : B ≤ g) : ∀ (vs : List Value) (o : Nat), Below B a (w.setCells g o vs)
  | [], _ => h
  | v :: vs, o => below_setCells0 (h.setCell (p := ⟨g, o, none⟩) hg v) hg vs (o + 1)
theorem heap_setCells_far {g k : Nat} (hk : k ≠ g) : ∀ (vs : List Value) (o : Nat) (w : World), (w.setCells g o vs).heap[k]? = w.heap[k]?
  | [], _, _ => rfl
  | v :: vs, o, w => (heap_setCells_far hk vs (o + 1) (w.setCell ⟨g, o, none⟩ v)).trans (Below.heap_setCell _ _ _ _ hk)

/-- what 'clear' of the states does -/
theorem IV.clear {w : World} {B g : Nat} {vals : Value} {sa : Option Addr} {us : List Int} (h : IV w B g vals sa us true) :
    ∃ w1, (∀ ty, (Builtin.clear_ #[85] ty #[.slice sa us.length us.length]).run Try.prog w = .ok (.tuple #[]) w1) ∧ IV w1 B g vals sa (stz true us) true ∧ KB sa w w1 := by
  have hz : stz true us = List.replicate us.length 0 := rfl
  by_cases h0 : us.length = 0
  · refine ⟨w, fun ty => ?_, ?_, KB.refl _ _⟩
    · rw [h0]
      cases sa <;> simp [Builtin.clear_, run_underlying Try.underlying85]
    · have e1 : us = [] := List.length_eq_zero_iff.1 h0
      subst e1
      exact h
  · rcases h.st with ⟨_, q⟩ | ⟨gs, e, q1, q2, q3⟩
    · rw [q] at h0
      exact absurd rfl h0
    · subst e
      refine ⟨w.setCells gs 0 (List.replicate us.length (.int .u8 0)), fun ty => ?_, ?_, ?_⟩
      · refine Lib.run_clear_slice w 85 86 ty (.int .u8 0) Try.underlying85 zero86 rfl rfl gs 0 us.length us.length (by omega) (fun j hj => ?_) (fun j hj => q3.free _)
        rw [Nat.zero_add, q3.cellD (i := j) (by simpa using hj) undef]
        rfl
      · refine ⟨?_, h.own, Or.inr ⟨gs, rfl, q1, q2, ?_⟩⟩
        · rw [hz, List.length_replicate]
          exact h.row.kept (heap_setCells_far (Ne.symm q1) _ _ _)
        · rw [hz, List.map_replicate]
          exact q3.setCells _ (by simp)
      · refine ⟨below_setCells0 (Below.refl _ _) (Nat.zero_le _) _ _, fun k hk hx => heap_setCells_far ?_ _ _ _⟩
        have := hx _ rfl
        exact fun e => this e.symm

set_option maxRecDepth 100000 in
set_option maxHeartbeats 800000 in
/-- (*intValues).states -/
theorem states_any (g B : Nat) (vals : Value) (sa : Option Addr) (us : List Int) (p : Bool) (w : World) (h : IV w B g vals sa us p) :
    Calls Try.prog 50 #[.pointer (some ⟨g, 0, none⟩)] w fun e w' => e = .returned (.slice sa us.length us.length) ∧ IV w' B g vals sa (stz p us) p ∧ KB sa w w' := by
  have c1 : w.cell? ⟨g, 1, none⟩ = some (.slice sa us.length us.length) := by rw [h.row.cell]; rfl
  have c2 : w.cell? ⟨g, 2, none⟩ = some (.bool p) := by rw [h.row.cell]; rfl
  cases p with
  | false =>
    have HI := hide h
    clear h
    go_enter Try.func50, Try.ntmps50
    go_wp2_with fail
    go_ret
    exact ⟨rfl, HI.out, KB.refl _ _⟩
  | true =>
    obtain ⟨w1, hcl, h1, h2⟩ := h.clear
    have d1 : w1.cell? ⟨g, 1, none⟩ = some (.slice sa us.length us.length) := by rw [h1.row.cell, stz_length]; rfl
    have HI := hide h1
    have HK := hide h2
    clear h h1 h2
    go_enter Try.func50, Try.ntmps50
    go_wp2_with (simp only [hcl])
    go_ret
    exact ⟨rfl, HI.out, HK.out⟩

set_option maxHeartbeats 800000 in
theorem truthOf_any (b : Bool) (w : World) : Calls Try.prog 62 #[.bool b] w fun e w' => e = .returned (.int .i8 (if b then 2 else 0)) ∧ w' = w := by
  cases b
  all_goals
    go_enter Try.func62, Try.ntmps62
    go_wp2_with fail
    go_ret
    exact ⟨rfl, rfl⟩

/-- the truth of a number at a state -/
def itruth (n s : Int) : Int := if s != 0 then 1 else if n != 0 then 2 else 0

set_option maxHeartbeats 800000 in
theorem intTruth_any (n s : Int) (w : World) : Calls Try.prog 51 #[.int .i64 n, .int .u8 s] w fun e w' => e = .returned (.int .i8 (itruth n s)) ∧ w' = w := by
  have HT := hide (truthOf_any (n != 0) w)
  by_cases hs : s = 0
  · subst hs
    rw [show itruth n 0 = (if (n != 0) = true then 2 else 0) from rfl]
    obtain ⟨t, ht⟩ : ∃ t : Int, t = if (n != 0) = true then 2 else 0 := ⟨_, rfl⟩
    rw [← ht] at HT ⊢
    clear ht
    go_enter Try.func51, Try.ntmps51
    go_wp2_with fail
    refine HT.out.mono ?_
    rintro e w' ⟨rfl, hw⟩
    subst w'
    go_wp2_with fail
    go_ret
    exact ⟨rfl, rfl⟩
  · have hs' : (s != 0) = true := by simpa using hs
    have HE : Hid (itruth n s = 1) := by show _ = _; simp [itruth, hs]
    clear hs
    go_enter Try.func51, Try.ntmps51
    go_wp2_with fail
    go_ret
    rw [HE.out]
    exact ⟨rfl, rfl⟩

set_option maxHeartbeats 800000 in
theorem zzIntTruth_any (n s : Int) (w : World) : Calls Try.prog 19 #[.int .i64 n, .int .u8 s] w fun e w' => e = .returned (.int .i8 (itruth n s)) ∧ w' = w := by
  have HT := hide (intTruth_any n s w)
  obtain ⟨t, ht⟩ : ∃ t, t = itruth n s := ⟨_, rfl⟩
  rw [← ht] at HT ⊢
  clear ht
  go_enter Try.func19, Try.ntmps19
  go_wp2_with fail
  refine HT.out.mono ?_
  rintro e w' ⟨rfl, hw⟩
  subst w'
  go_wp2_with fail
  go_ret
  exact ⟨rfl, rfl⟩

end Go.Proofs.Qxb6001672a
