/-
  Seat b6000458a: what came in, and the counts of bytes.
-/
import Derived.Test.Qxb6000458aRows
import Derived.WalkKit
import Derived.WalkSpells
namespace Go.Proofs.Qxb6000458a
open Go.RowKit

/-- WHAT THE WALKS ARE TOLD OF THE LINES THAT CAME IN: none; or a row of pairs of strings. -/
def IsLines (w : World) (a : Option Addr) (len cap : Nat) (ls : List (ByteArray × ByteArray)) : Prop :=
  ls.length = len ∧ len ≤ cap ∧ cap ≤ maxLen ∧ (len = 0 ∨ ∃ b off, a = some ⟨b, off, none⟩ ∧
    ∀ i, i < len → w.cell? ⟨b, off + i * 2, none⟩ = some (.string (ls.getD i (ByteArray.empty, ByteArray.empty)).1) ∧ w.cell? ⟨b, off + i * 2 + 1, none⟩ = some (.string (ls.getD i (ByteArray.empty, ByteArray.empty)).2))

/-- it returned some bool (behind a name that the walk does not open) -/
def SomeBool (e : Ending) : Prop := ∃ x : Bool, e = .returned (.bool x)
def SomeInt (e : Ending) : Prop := ∃ x : Int, e = .returned (.int .i64 x)

set_option maxHeartbeats 400000 in
theorem zzb11 (u : ByteArray) (hu : u.size ≤ maxLen) (a : Option Addr) (len cap : Nat) (ls : List (ByteArray × ByteArray)) (w : World) (hl : IsLines w a len cap ls) :
    Calls Try.prog 11 #[.string u, .slice a len cap] w fun e w' => SomeBool e ∧ w' = w := by
  unfold maxLen at hu
  obtain ⟨h1, h2, h3, h4⟩ := hl
  unfold maxLen at h3
  clear h1
  go_enter Try.func11, Try.ntmps11
  go_wp2
  all_goals try (go_ret; exact ⟨⟨_, rfl⟩, rfl⟩)
  go_loop [5, 6] (fun t i => ∃ (k : Nat) (z : Int), k ≤ len ∧ i = .int .i64 k ∧ t = .int .i64 z ∧ 0 ≤ z ∧ z ≤ 1048576) (fun _ i => len - (intOf i).toNat)
  case atStart => exact ⟨0, _, Nat.zero_le _, rfl, rfl, by omega, by assumption⟩
  case round =>
    obtain ⟨k, z, hk, rfl, rfl, hz0, hz1⟩ := hrel
    by_cases hlt : k < len
    · rcases h4 with h5 | ⟨b, off, rfl, hc⟩
      · omega
      obtain ⟨c0, c1⟩ := hc k hlt
      clear hc
      obtain ⟨s0, hs0⟩ : ∃ s, s = (ls.getD k (ByteArray.empty, ByteArray.empty)).1 := ⟨_, rfl⟩
      obtain ⟨s1, hs1⟩ : ∃ s, s = (ls.getD k (ByteArray.empty, ByteArray.empty)).2 := ⟨_, rfl⟩
      rw [← hs0] at c0
      rw [← hs1] at c1
      clear hs0 hs1
      go_wp2
      all_goals first | (go_ret; exact ⟨⟨_, rfl⟩, rfl⟩) | skip
      go_round
      case rel => exact ⟨k + 1, _, by omega, by go_num, rfl, by omega, by assumption⟩
      case measure => simp [intOf]; omega
    · go_wp2
      go_ret
      exact ⟨⟨_, rfl⟩, rfl⟩

set_option maxHeartbeats 400000 in
theorem zzb20 (u : ByteArray) (hu : u.size ≤ maxLen) (a : Option Addr) (len cap : Nat) (ls : List (ByteArray × ByteArray)) (w : World) (hl : IsLines w a len cap ls) :
    Calls Try.prog 20 #[.string u, .slice a len cap] w fun e w' => SomeBool e ∧ w' = w := by
  unfold maxLen at hu
  obtain ⟨h1, h2, h3, h4⟩ := hl
  unfold maxLen at h3
  clear h1
  go_enter Try.func20, Try.ntmps20
  go_wp2
  all_goals try (go_ret; exact ⟨⟨_, rfl⟩, rfl⟩)
  go_loop [5, 6] (fun t i => ∃ (k : Nat) (z : Int), k ≤ len ∧ i = .int .i64 k ∧ t = .int .i64 z ∧ 0 ≤ z ∧ z ≤ 1048576) (fun _ i => len - (intOf i).toNat)
  case atStart => exact ⟨0, _, Nat.zero_le _, rfl, rfl, by omega, by assumption⟩
  case round =>
    obtain ⟨k, z, hk, rfl, rfl, hz0, hz1⟩ := hrel
    by_cases hlt : k < len
    · rcases h4 with h5 | ⟨b, off, rfl, hc⟩
      · omega
      obtain ⟨c0, c1⟩ := hc k hlt
      clear hc
      obtain ⟨s0, hs0⟩ : ∃ s, s = (ls.getD k (ByteArray.empty, ByteArray.empty)).1 := ⟨_, rfl⟩
      obtain ⟨s1, hs1⟩ : ∃ s, s = (ls.getD k (ByteArray.empty, ByteArray.empty)).2 := ⟨_, rfl⟩
      rw [← hs0] at c0
      rw [← hs1] at c1
      clear hs0 hs1
      go_wp2
      all_goals first | (go_ret; exact ⟨⟨_, rfl⟩, rfl⟩) | skip
      go_round
      case rel => exact ⟨k + 1, _, by omega, by go_num, rfl, by omega, by assumption⟩
      case measure => simp [intOf]; omega
    · go_wp2
      go_ret
      exact ⟨⟨_, rfl⟩, rfl⟩

set_option maxHeartbeats 400000 in
theorem zzb23 (u : ByteArray) (n : Int) (hu : u.size ≤ maxLen) (a : Option Addr) (len cap : Nat) (ls : List (ByteArray × ByteArray)) (w : World) (hl : IsLines w a len cap ls) :
    Calls Try.prog 23 #[.string u, .int .i64 n, .slice a len cap] w fun e w' => SomeBool e ∧ w' = w := by
  unfold maxLen at hu
  obtain ⟨h1, h2, h3, h4⟩ := hl
  unfold maxLen at h3
  clear h1
  go_enter Try.func23, Try.ntmps23
  go_wp2
  all_goals try (go_ret; exact ⟨⟨_, rfl⟩, rfl⟩)
  go_loop [7, 8] (fun t i => ∃ (k : Nat) (z : Int), k ≤ len ∧ i = .int .i64 k ∧ t = .int .i64 z ∧ 0 ≤ z ∧ z ≤ 1048576) (fun _ i => len - (intOf i).toNat)
  case atStart => exact ⟨0, _, Nat.zero_le _, rfl, rfl, by omega, by assumption⟩
  case round =>
    obtain ⟨k, z, hk, rfl, rfl, hz0, hz1⟩ := hrel
    by_cases hlt : k < len
    · rcases h4 with h5 | ⟨b, off, rfl, hc⟩
      · omega
      obtain ⟨c0, c1⟩ := hc k hlt
      clear hc
      obtain ⟨s0, hs0⟩ : ∃ s, s = (ls.getD k (ByteArray.empty, ByteArray.empty)).1 := ⟨_, rfl⟩
      obtain ⟨s1, hs1⟩ : ∃ s, s = (ls.getD k (ByteArray.empty, ByteArray.empty)).2 := ⟨_, rfl⟩
      rw [← hs0] at c0
      rw [← hs1] at c1
      clear hs0 hs1
      go_wp2
      all_goals first | (go_ret; exact ⟨⟨_, rfl⟩, rfl⟩) | skip
      go_round
      case rel => exact ⟨k + 1, _, by omega, by go_num, rfl, by omega, by assumption⟩
      case measure => simp [intOf]; omega
    · go_wp2
      go_ret
      exact ⟨⟨_, rfl⟩, rfl⟩

set_option maxHeartbeats 400000 in
theorem lineBytes_any (a : Option Addr) (len cap : Nat) (ls : List (ByteArray × ByteArray)) (w : World) (hl : IsLines w a len cap ls) :
    Calls Try.prog 12 #[.slice a len cap] w fun e w' => SomeInt e ∧ w' = w := by
  obtain ⟨h1, h2, h3, h4⟩ := hl
  unfold maxLen at h3
  clear h1
  go_enter Try.func12, Try.ntmps12
  go_wp2
  go_loop [3, 4] (fun t i => ∃ (k : Nat) (z : Int), k ≤ len ∧ i = .int .i64 k ∧ t = .int .i64 z) (fun _ i => len - (intOf i).toNat)
  case atStart => exact ⟨0, _, Nat.zero_le _, rfl, rfl⟩
  case round =>
    obtain ⟨k, z, hk, rfl, rfl⟩ := hrel
    by_cases hlt : k < len
    · rcases h4 with h5 | ⟨b, off, rfl, hc⟩
      · omega
      obtain ⟨c0, c1⟩ := hc k hlt
      clear hc
      obtain ⟨s0, hs0⟩ : ∃ s, s = (ls.getD k (ByteArray.empty, ByteArray.empty)).1 := ⟨_, rfl⟩
      obtain ⟨s1, hs1⟩ : ∃ s, s = (ls.getD k (ByteArray.empty, ByteArray.empty)).2 := ⟨_, rfl⟩
      rw [← hs0] at c0
      rw [← hs1] at c1
      clear hs0 hs1
      go_wp2
      all_goals first | (go_ret; exact ⟨⟨_, rfl⟩, rfl⟩) | skip
      go_round
      case rel => exact ⟨k + 1, _, by omega, by go_num, rfl⟩
      case measure => simp [intOf]; omega
    · go_wp2
      go_ret
      exact ⟨⟨_, rfl⟩, rfl⟩

end Go.Proofs.Qxb6000458a
