/-
  Seat b6000458a: the shim's fronts.
-/
import Derived.Test.Qxb6000458aWayWalk
namespace Go.Proofs.Qxb6000458a
open Go.RowKit Go.WideMaps Go.Maps

set_option maxHeartbeats 400000 in
theorem newAnswers_any (w : World) : Calls Try.prog 22 #[] w fun e w' => e = .returned (.map (some w.heap.size)) ∧ w' = w.alloc (.map #[] 0) := by
  have hmm := @run_makeMap Try.prog
  go_enter Try.func22, Try.ntmps22
  go_wp2_with fail
  go_ret
  exact ⟨rfl, rfl⟩

set_option maxRecDepth 100000 in
set_option maxHeartbeats 400000 in
theorem zzWithin_any (B N : Nat) (ls : List (ByteArray × ByteArray)) (u : ByteArray) (w : World) (hF : FileAt B w N ls) (h4 : ls.length ≤ 4096) (hu : u.size ≤ maxLen) (hsz : ∀ p ∈ ls, p.1.size ≤ maxLen ∧ p.2.size ≤ maxLen) :
    Calls Try.prog 14 #[.pointer (some ⟨N + 3, 0, none⟩), .string u, .map (some (N + 4))] w (WithinPost w ls u) := by
  have HC := hide (within_any B N ls u w hF h4 hu hsz)
  clear hF hsz hu
  go_enter Try.func14, Try.ntmps14
  go_wp2_with (go_at_call 35; refine HC.out.mono ?_; rintro e w' ⟨vF, rfl, h1, h2, h3⟩; have H1 := hide h1; have H2 := hide h2; have H3 := hide h3; clear h1 h2 h3)
  go_ret2
  exact ⟨_, rfl, H1.out, H2.out, H3.out⟩

set_option maxRecDepth 100000 in
set_option maxHeartbeats 400000 in
theorem zzWay_any (B N A : Nat) (u : ByteArray) (ls : List (ByteArray × ByteArray)) (h4 : ls.length ≤ 4096) (hP : ∀ a, a ∈ pool u ls → a.size ≤ maxLen) (hBA : B ≤ A) (s : ByteArray) (l : Int) (w : World) (hl : l ≤ 4096) (hs : s ∈ pool u ls) (hF : FileAt B w N ls) (hA : AnsAt w A u ls) :
    Calls Try.prog 21 #[.pointer (some ⟨N + 3, 0, none⟩), .string s, .int .i64 l, .map (some (N + 4)), .map (some A)] w (WayPost w A u ls s l) := by
  have HC := hide (way_any B N A u ls h4 hP hBA (l + 1).toNat s l w (by omega) hl hs hF hA)
  unfold wayV at HC
  clear hF hA hs hP
  go_enter Try.func21, Try.ntmps21
  go_wp2_with (go_at_call 36; refine HC.out.mono ?_; rintro e w' ⟨rfl, h1, h2⟩; have H1 := hide h1; have H2 := hide h2; clear h1 h2)
  go_ret
  exact ⟨rfl, H1.out, H2.out⟩

end Go.Proofs.Qxb6000458a
