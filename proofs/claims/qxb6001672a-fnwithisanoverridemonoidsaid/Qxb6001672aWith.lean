/-
  Seat b6001672a: with, and the law on it, walked.
-/
import Derived.Test.Qxb6001672aWindow
import Derived.Deep.QuietTactic
import Derived.BigQuiet
import Derived.WalkSmall
namespace Go.Proofs.Qxb6001672a
open Go.RowKit

/-- s laid over c -/
def ov (c s : Int) : Int := if s = 0 then c else s
theorem ov_zero (c : Int) : ov c 0 = c := by simp [ov]
theorem zero_ov (s : Int) : ov 0 s = s := by unfold ov; split <;> simp [*]
theorem ov_ov (c s : Int) : ov (ov c s) s = ov c s := by unfold ov; split <;> simp [*]
theorem ov_assoc (c s t : Int) : ov (ov c s) t = ov c (ov s t) := by unfold ov; split <;> simp_all
theorem ov_set (c : Int) {s : Int} (h : s ≠ 0) : ov c s = s := by simp [ov, h]

/-- three blocks more -/
theorem below3 (w : World) (a b c : Obj) : Below w.heap.size w (((w.alloc a).alloc b).alloc c) := (((Below.refl _ _).alloc (Nat.le_refl _) _).alloc (by simp) _).alloc (by simp; omega) _

set_option maxHeartbeats 800000 in
theorem with_any (cl ca sl sa : Int) (w : World) :
    Calls Try.prog 49 #[.agg #[.int .i64 cl, .int .i64 ca], .agg #[.int .i64 sl, .int .i64 sa]] w fun e w' => e = .returned (.agg #[.int .i64 (ov cl sl), .int .i64 (ov ca sa)]) ∧ Below w.heap.size w w' := by
  by_cases h1 : sl = 0
  · by_cases h2 : sa = 0
    · subst h1
      subst h2
      rw [ov_zero, ov_zero]
      go_enter Try.func49, Try.ntmps49
      go_wp2
      exact bodyPost_ret (v := .agg #[.int .i64 cl, .int .i64 ca]) (by simp [results, Try.results49, go_sem]) rfl ⟨rfl, below3 _ _ _ _⟩
    · subst h1
      rw [ov_zero, ov_set ca h2]
      have h3 : (sa != 0) = true := by simpa using h2
      go_enter Try.func49, Try.ntmps49
      go_wp2
      exact bodyPost_ret (v := .agg #[.int .i64 cl, .int .i64 sa]) (by simp [results, Try.results49, go_sem]) rfl ⟨rfl, below3 _ _ _ _⟩
  · by_cases h2 : sa = 0
    · subst h2
      rw [ov_zero, ov_set cl h1]
      have h3 : (sl != 0) = true := by simpa using h1
      go_enter Try.func49, Try.ntmps49
      go_wp2
      exact bodyPost_ret (v := .agg #[.int .i64 sl, .int .i64 ca]) (by simp [results, Try.results49, go_sem]) rfl ⟨rfl, below3 _ _ _ _⟩
    · rw [ov_set cl h1, ov_set ca h2]
      have h3 : (sl != 0) = true := by simpa using h1
      have h4 : (sa != 0) = true := by simpa using h2
      go_enter Try.func49, Try.ntmps49
      go_wp2
      exact bodyPost_ret (v := .agg #[.int .i64 sl, .int .i64 sa]) (by simp [results, Try.results49, go_sem]) rfl ⟨rfl, below3 _ _ _ _⟩

theorem with_below {w x : World} {a b : Obj} (h : Below ((w.alloc a).alloc b).heap.size ((w.alloc a).alloc b) x) (o : Obj) : Below w.heap.size w (x.alloc o) := by
  have hs := h.size
  have h2 : Below w.heap.size w ((w.alloc a).alloc b) := ((Below.refl _ _).alloc (Nat.le_refl _) _).alloc (by simp) _
  exact (h2.trans (h.mono (by simp; omega))).alloc (by simp at hs; omega) _

set_option maxHeartbeats 800000 in
theorem zzWith_any (cl ca sl sa : Int) (w : World) :
    Calls Try.prog 13 #[.int .i64 cl, .int .i64 ca, .int .i64 sl, .int .i64 sa] w fun e w' => e = .returned (.tuple #[.int .i64 (ov cl sl), .int .i64 (ov ca sa)]) ∧ Below w.heap.size w w' := by
  have HC := hide (fun x => with_any cl ca sl sa x)
  obtain ⟨rl, hrl⟩ : ∃ r, r = ov cl sl := ⟨_, rfl⟩
  obtain ⟨ra, hra⟩ : ∃ r, r = ov ca sa := ⟨_, rfl⟩
  rw [← hrl, ← hra] at HC ⊢
  clear hrl hra
  go_enter Try.func13, Try.ntmps13
  go_wp2_with (go_at_call 49; refine (HC.out _).mono ?_; rintro e w' ⟨rfl, hb⟩; have HB := hide hb; clear hb)
  go_quiet (fail)
  go_wp2_with fail
  go_ret2
  exact ⟨rfl, below_drewN (with_below HB.out _) _⟩

set_option maxRecDepth 100000 in
set_option maxHeartbeats 1600000 in
theorem with_walk (cl ca sl sa tl ta : Int) (w : World) :
    Calls Try.prog 4 #[.int .i64 cl, .int .i64 ca, .int .i64 sl, .int .i64 sa, .int .i64 tl, .int .i64 ta] w fun e w' => e = .returned (.bool true) ∧ Below w.heap.size w w' := by
  have HC := hide (fun (c0 c1 s0 s1 : Int) (x : World) (B : Nat) (w0 : World) (hb : Below B w0 x) (hB : B ≤ x.heap.size) => (zzWith_any c0 c1 s0 s1 x).mono (fun e w' (h : _ ∧ _) => (⟨h.1, hb.trans (h.2.mono hB)⟩ : e = .returned (.tuple #[.int .i64 (ov c0 s0), .int .i64 (ov c1 s1)]) ∧ Below B w0 w')))
  go_enter Try.func4, Try.ntmps4
  go_wp2_with fail
  refine (HC.out _ _ _ _ _ _ _ (Below.refl w.heap.size w) (Nat.le_refl _)).mono ?_
  rintro e w1 ⟨rfl, hb1⟩
  rw [ov_zero, ov_zero]
  have HB1 := hide hb1
  clear hb1
  go_wp2_with fail
  refine (HC.out _ _ _ _ _ _ _ HB1.out HB1.out.size).mono ?_
  rintro e w2 ⟨rfl, hb2⟩
  rw [zero_ov, zero_ov]
  have HB2 := hide hb2
  clear hb2
  go_wp2_with fail
  refine (HC.out _ _ _ _ _ _ _ HB2.out HB2.out.size).mono ?_
  rintro e w3 ⟨rfl, hb3⟩
  have HB3 := hide hb3
  clear hb3
  go_wp2_with fail
  refine (HC.out _ _ _ _ _ _ _ HB3.out HB3.out.size).mono ?_
  rintro e w4 ⟨rfl, hb4⟩
  rw [ov_ov, ov_ov]
  have HB4 := hide hb4
  clear hb4
  go_wp2_with fail
  refine (HC.out _ _ _ _ _ _ _ HB4.out HB4.out.size).mono ?_
  rintro e w5 ⟨rfl, hb5⟩
  have HB5 := hide hb5
  clear hb5
  go_wp2_with fail
  refine (HC.out _ _ _ _ _ _ _ HB5.out HB5.out.size).mono ?_
  rintro e w6 ⟨rfl, hb6⟩
  rw [ov_assoc, ov_assoc]
  have HB6 := hide hb6
  clear hb6
  go_wp2_with fail
  refine (HC.out _ _ _ _ _ _ _ HB6.out HB6.out.size).mono ?_
  rintro e w7 ⟨rfl, hb7⟩
  have HB7 := hide hb7
  clear hb7
  by_cases h1 : sl = 0
  · subst h1
    go_wp2_with fail
    go_ret
    exact ⟨rfl, HB7.out⟩
  · by_cases h2 : sa = 0
    · subst h2
      have h3 : (sl != 0) = true := by simpa using h1
      go_wp2_with fail
      go_ret
      exact ⟨rfl, HB7.out⟩
    · have h3 : (sl != 0) = true := by simpa using h1
      have h4 : (sa != 0) = true := by simpa using h2
      rw [ov_set cl h1, ov_set ca h2]
      go_wp2_with fail
      go_ret
      exact ⟨rfl, HB7.out⟩

end Go.Proofs.Qxb6001672a
