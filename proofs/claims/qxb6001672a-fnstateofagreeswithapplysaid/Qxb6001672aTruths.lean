/-
  Seat b6001672a: intOf, join, truthInt, walked.
-/
import Derived.Test.Qxb6001672aInts
namespace Go.Proofs.Qxb6001672a
open Go.RowKit

set_option maxHeartbeats 800000 in
theorem intOf_any (b : Bool) (w : World) : Calls Try.prog 68 #[.bool b] w fun e w' => e = .returned (.int .i64 (if b then 1 else 0)) ∧ w' = w := by
  cases b
  all_goals
    go_enter Try.func68, Try.ntmps68
    go_wp2_with fail
    go_ret
    exact ⟨rfl, rfl⟩

/-- AND's truth, as join finds it -/
def jn (a b : Int) : Int := if b < a then b else a

set_option maxHeartbeats 800000 in
theorem join_any (a b : Int) (w : World) : Calls Try.prog 69 #[.int .i8 a, .int .i8 b, .int .i8 0] w fun e w' => e = .returned (.int .i8 (jn a b)) ∧ w' = w := by
  by_cases h : b < a
  · have HJ : Hid (jn a b = b) := if_pos h
    go_enter Try.func69, Try.ntmps69
    go_wp2_with fail
    go_ret
    rw [HJ.out]
    exact ⟨rfl, rfl⟩
  · have HJ : Hid (jn a b = a) := if_neg h
    go_enter Try.func69, Try.ntmps69
    go_wp2_with fail
    go_ret
    rw [HJ.out]
    exact ⟨rfl, rfl⟩

/-- the state that stands for a truth -/
def tst (tr : Int) (inexact : Bool) : Int := if inexact then 2 else if tr == 1 then 1 else 0

/-- the number that stands for a truth -/
def tnum (tr : Int) : Int := if (tr == 2) = true then 1 else 0

set_option maxHeartbeats 800000 in
theorem truthInt_any (tr : Int) (inexact : Bool) (w : World) : Calls Try.prog 70 #[.int .i8 tr, .bool inexact] w fun e w' => e = .returned (.tuple #[.int .i64 (tnum tr), .int .u8 (tst tr inexact)]) ∧ w' = w := by
  have HI : Hid (Calls Try.prog 68 #[.bool (tr == 2)] w fun e w' => e = .returned (.int .i64 (tnum tr)) ∧ w' = w) := intOf_any (tr == 2) w
  obtain ⟨n, hn⟩ : ∃ n : Int, n = tnum tr := ⟨_, rfl⟩
  rw [← hn] at HI ⊢
  clear hn
  cases inexact with
  | true =>
    go_enter Try.func70, Try.ntmps70
    go_wp2_with fail
    refine HI.out.mono ?_
    rintro e w' ⟨rfl, hw⟩
    subst w'
    go_wp2_with fail
    go_ret2
    exact ⟨rfl, rfl⟩
  | false =>
    by_cases h : tr = 1
    · subst h
      go_enter Try.func70, Try.ntmps70
      go_wp2_with fail
      refine HI.out.mono ?_
      rintro e w' ⟨rfl, hw⟩
      subst w'
      go_wp2_with fail
      go_ret2
      exact ⟨rfl, rfl⟩
    · have h1 : (tr == 1) = false := by simpa using h
      have HT : Hid (tst tr false = 0) := by show _ = _; simp [tst, h]
      clear h
      go_enter Try.func70, Try.ntmps70
      go_wp2_with fail
      refine HI.out.mono ?_
      rintro e w' ⟨rfl, hw⟩
      subst w'
      go_wp2_with fail
      go_ret2
      rw [HT.out]
      exact ⟨rfl, rfl⟩

end Go.Proofs.Qxb6001672a
