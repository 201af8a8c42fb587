/-
  Seat b6001672a: keyed and its front, walked.
-/
import Derived.Test.Qxb6001672aOrder
namespace Go.Proofs.Qxb6001672a
open Go.RowKit

/-- what keyed answers -/
def kd (m : Nat) (c0 : Int) (d0 : Bool) (pk : Int) : Bool × Bool := if m = 0 then (true, false) else (c0 == pk, d0)

set_option maxRecDepth 100000 in
set_option maxHeartbeats 1600000 in
theorem keyed_any (g m : Nat) (off cnt pk c0 : Int) (d0 : Bool) (w : World) (hm : m ≤ 1048577) (hc : 0 < m → w.cell? ⟨g, 0, none⟩ = some (.int .i64 c0) ∧ w.cell? ⟨g, 1, none⟩ = some (.bool d0)) :
    Calls Try.prog 52 #[.agg #[.slice (some ⟨g, 0, none⟩) m m, .int .i64 off, .int .i64 cnt], .int .i64 pk] w fun e w' => e = .returned (.tuple #[.bool (kd m c0 d0 pk).1, .bool (kd m c0 d0 pk).2]) ∧ Below w.heap.size w w' := by
  by_cases h0 : m = 0
  · subst h0
    rw [show kd 0 c0 d0 pk = (true, false) from rfl]
    clear hc
    go_enter Try.func52, Try.ntmps52
    go_wp2_with fail
    go_ret2
    exact ⟨rfl, (Below.refl _ _).alloc (Nat.le_refl _) _⟩
  · obtain ⟨k0, k1⟩ := hc (by omega)
    have hg : g < w.heap.size := World.block_lt_of_cell? w _ k0
    rw [show kd m c0 d0 pk = (c0 == pk, d0) by simp [kd, h0]]
    have q0 : (w.alloc (.cells #[.slice (some ⟨g, 0, none⟩) m m, .int .i64 off, .int .i64 cnt] 44)).cell? ⟨g, 0, none⟩ = some (.int .i64 c0) := by rw [World.cell?_alloc_lt _ _ _ hg]; exact k0
    have q1 : (w.alloc (.cells #[.slice (some ⟨g, 0, none⟩) m m, .int .i64 off, .int .i64 cnt] 44)).cell? ⟨g, 1, none⟩ = some (.bool d0) := by rw [World.cell?_alloc_lt _ _ _ hg]; exact k1
    have hm0 : ((m : Int) == 0) = false := by simp; omega
    have hm1 : (0 : Int) < (m : Int) := by omega
    clear hc
    go_enter Try.func52, Try.ntmps52
    go_wp2_with fail
    go_quiet (fail)
    go_wp2_with fail
    go_ret2
    exact ⟨rfl, below_drewN ((Below.refl _ _).alloc (Nat.le_refl _) _) _⟩

set_option maxRecDepth 100000 in
set_option maxHeartbeats 1600000 in
theorem zzKeyed_any (g m : Nat) (off cnt pk c0 : Int) (d0 : Bool) (w : World) (hm : m ≤ 1048577) (hg : g < w.heap.size) (hc : 0 < m → w.cell? ⟨g, 0, none⟩ = some (.int .i64 c0) ∧ w.cell? ⟨g, 1, none⟩ = some (.bool d0)) :
    Calls Try.prog 24 #[.agg #[.slice (some ⟨g, 0, none⟩) m m, .int .i64 off, .int .i64 cnt], .int .i64 pk] w fun e w' => e = .returned (.tuple #[.bool (kd m c0 d0 pk).1, .bool (kd m c0 d0 pk).2]) ∧ Below w.heap.size w w' := by
  have HC := hide (fun (o : Obj) => keyed_any g m off cnt pk c0 d0 (w.alloc o) hm (fun q => ⟨by rw [World.cell?_alloc_lt _ _ _ hg]; exact (hc q).1, by rw [World.cell?_alloc_lt _ _ _ hg]; exact (hc q).2⟩))
  clear hc
  obtain ⟨r, hr⟩ : ∃ r, r = kd m c0 d0 pk := ⟨_, rfl⟩
  rw [← hr] at HC ⊢
  clear hr
  go_enter Try.func24, Try.ntmps24
  go_wp2_with fail
  refine (HC.out _).mono ?_
  rintro e w1 ⟨rfl, hb⟩
  have HB : Hid (Below w.heap.size w w1) := ((Below.refl _ _).alloc (Nat.le_refl _) _).trans (hb.mono (by simp))
  clear hb
  go_wp2_with fail
  go_ret2
  exact ⟨rfl, HB.out⟩

end Go.Proofs.Qxb6001672a
