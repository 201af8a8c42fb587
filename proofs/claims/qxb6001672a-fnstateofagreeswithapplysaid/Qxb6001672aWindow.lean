/-
  Seat b6001672a: window, and the law on it, walked.
-/
import Derived.Test.Qxb6001672aRows
import Derived.WalkKit
import Derived.WalkSpells
import Derived.WalkLawsBesides
namespace Go.Proofs.Qxb6001672a
open Go.RowKit

theorem hide {p : Prop} (h : p) : Hid p := h

/-- what window answers -/
def Win (off c n f t : Int) : Prop :=
  (off ≤ n ∧ c < 0 ∧ f = off ∧ t = n) ∨ (off ≤ n ∧ 0 ≤ c ∧ n - off < c ∧ f = off ∧ t = n) ∨ (off ≤ n ∧ 0 ≤ c ∧ c ≤ n - off ∧ f = off ∧ t = off + c) ∨ (n < off ∧ f = n ∧ t = n)

/-- the two results, and what they are (behind a name that the walk does not open) -/
def WinPost (off c n : Int) (e : Ending) : Prop := ∃ f t : Int, e = .returned (.tuple #[.int .i64 f, .int .i64 t]) ∧ Win off c n f t

theorem winPost_mk {off c n f t : Int} (h : Win off c n f t) : WinPost off c n (.returned (.tuple #[.int .i64 f, .int .i64 t])) := ⟨f, t, rfl, h⟩

set_option maxHeartbeats 800000 in
theorem window_any (s : Value) (off c n : Int) (w : World) (h0 : 0 ≤ off) (h1 : 0 ≤ n) (h2 : n ≤ 4096) (h3 : off ≤ 9223372036854775807) (h4 : -9223372036854775808 ≤ c) (h5 : c ≤ 9223372036854775807) :
    Calls Try.prog 48 #[.agg #[s, .int .i64 off, .int .i64 c], .int .i64 n] w fun e w' => WinPost off c n e ∧ Below w.heap.size w w' := by
  by_cases q0 : off ≤ n
  · by_cases q1 : 0 ≤ c
    · go_enter Try.func48, Try.ntmps48
      go_wp2
      all_goals
        go_ret2
        exact ⟨winPost_mk (by unfold Win; omega), (Below.refl _ _).alloc (Nat.le_refl _) _⟩
    · go_enter Try.func48, Try.ntmps48
      go_wp2
      all_goals
        go_ret2
        exact ⟨winPost_mk (by unfold Win; omega), (Below.refl _ _).alloc (Nat.le_refl _) _⟩
  · by_cases q1 : 0 ≤ c
    · go_enter Try.func48, Try.ntmps48
      go_wp2
      all_goals
        go_ret2
        exact ⟨winPost_mk (by unfold Win; omega), (Below.refl _ _).alloc (Nat.le_refl _) _⟩
    · go_enter Try.func48, Try.ntmps48
      go_wp2
      all_goals
        go_ret2
        exact ⟨winPost_mk (by unfold Win; omega), (Below.refl _ _).alloc (Nat.le_refl _) _⟩

set_option maxHeartbeats 800000 in
theorem zzWindow_any (off c n : Int) (w : World) (h0 : 0 ≤ off) (h1 : 0 ≤ n) (h2 : n ≤ 4096) (h3 : off ≤ 9223372036854775807) (h4 : -9223372036854775808 ≤ c) (h5 : c ≤ 9223372036854775807) :
    Calls Try.prog 12 #[.int .i64 off, .int .i64 c, .int .i64 n] w fun e w' => WinPost off c n e ∧ Below w.heap.size w w' := by
  have HC := hide (fun x s => window_any s off c n x h0 h1 h2 h3 h4 h5)
  clear h0 h1 h2 h3 h4 h5
  go_enter Try.func12, Try.ntmps12
  go_wp2_with (go_at_call 48; refine (HC.out _ _).mono ?_; rintro e w' ⟨⟨f, t, rfl, hw⟩, hb⟩; have HW := hide hw; have HB := hide hb; clear hw hb)
  go_ret2
  exact ⟨winPost_mk HW.out, HB.out⟩

set_option maxHeartbeats 1600000 in
theorem window_walk (off c n : Int) (w : World) (h3 : -9223372036854775808 ≤ off) (h3' : off ≤ 9223372036854775807) (h4 : -9223372036854775808 ≤ c) (h5 : c ≤ 9223372036854775807) :
    Calls Try.prog 3 #[.int .i64 off, .int .i64 c, .int .i64 n] w fun e w' => e = .returned (.bool true) ∧ Below w.heap.size w w' := by
  by_cases n0 : n < 0
  · go_enter Try.func3, Try.ntmps3
    go_wp2_with fail
    go_ret
    exact ⟨rfl, Below.refl _ _⟩
  by_cases n1 : 4096 < n
  · go_enter Try.func3, Try.ntmps3
    go_wp2_with fail
    go_ret
    exact ⟨rfl, Below.refl _ _⟩
  by_cases n2 : off < 0
  · go_enter Try.func3, Try.ntmps3
    go_wp2_with fail
    go_ret
    exact ⟨rfl, Below.refl _ _⟩
  have HC := hide (zzWindow_any off c n w (by omega) (by omega) (by omega) h3' h4 h5)
  go_enter Try.func3, Try.ntmps3
  go_wp2_with fail
  refine HC.out.mono ?_
  rintro e w1 ⟨⟨f, t, rfl, hw⟩, hb⟩
  have HB := hide hb
  clear hb HC
  obtain ⟨k, hk⟩ : ∃ k : Nat, n = k := ⟨n.toNat, by omega⟩
  subst hk
  have HL : Hid (∀ f t : Int, Win off c k f t → ∀ j : Nat, j < k → (f ≤ j ∧ (j : Int) < t ∧ off ≤ j ∧ (c < 0 ∨ (0 ≤ c ∧ (j : Int) - off < c))) ∨ (f ≤ j ∧ ¬ (j : Int) < t ∧ (¬ off ≤ j ∨ (off ≤ j ∧ 0 ≤ c ∧ ¬ (j : Int) - off < c))) ∨ (¬ f ≤ j ∧ (¬ off ≤ j ∨ (off ≤ j ∧ 0 ≤ c ∧ ¬ (j : Int) - off < c)))) := by
    intro f t h j hj
    unfold Win at h
    omega
  have hft : 0 ≤ f ∧ f ≤ t ∧ t ≤ k := by unfold Win at hw; omega
  have HW := hide hw
  obtain ⟨b0, b1, b2⟩ := hft
  clear hw
  go_wp2_with fail
  go_loop [9] (fun i => ∃ j : Nat, j ≤ k ∧ i = .int .i64 j) (fun i => k - (intOf i).toNat)
  case atStart => exact ⟨0, Nat.zero_le _, rfl⟩
  case round =>
    obtain ⟨j, hj, rfl⟩ := hrel
    by_cases hjk : j < k
    · rcases HL.out f t HW.out j hjk with ⟨c1, c2, c3, c4 | ⟨c4, c5⟩⟩ | ⟨c1, c2, c3 | ⟨c3, c4, c5⟩⟩ | ⟨c1, c3 | ⟨c3, c4, c5⟩⟩
      all_goals
        first | have e1 : decide (f ≤ (j : Int)) = true := decide_eq_true (by omega) | have e1 : decide (f ≤ (j : Int)) = false := decide_eq_false (by omega) | skip
        first | have e2 : decide ((j : Int) < t) = true := decide_eq_true (by omega) | have e2 : decide ((j : Int) < t) = false := decide_eq_false (by omega) | skip
        first | have e3 : decide (off ≤ (j : Int)) = true := decide_eq_true (by omega) | have e3 : decide (off ≤ (j : Int)) = false := decide_eq_false (by omega) | skip
        first | have e4 : decide (c < 0) = true := decide_eq_true (by omega) | have e4 : decide (c < 0) = false := decide_eq_false (by omega) | skip
        first | have e5 : decide ((j : Int) - off < c) = true := decide_eq_true (by omega) | have e5 : decide ((j : Int) - off < c) = false := decide_eq_false (by omega) | skip
        go_wp2_with fail
        go_round
        case rel => exact ⟨j + 1, by omega, by go_num⟩
        case measure => simp [intOf]; omega
    · go_wp2_with fail
      go_ret
      exact ⟨rfl, HB.out⟩

end Go.Proofs.Qxb6001672a
