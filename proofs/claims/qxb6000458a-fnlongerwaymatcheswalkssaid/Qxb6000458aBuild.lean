/-
  Seat b6000458a: buildFile, walked.
-/
import Derived.Test.Qxb6000458aFile
namespace Go.Proofs.Qxb6000458a
open Go.RowKit Go.WideMaps Go.Maps

theorem hide {p : Prop} (h : p) : Hid p := h

/-- what buildFile leaves -/
def Built (w : World) (ls : List (ByteArray × ByteArray)) (e : Ending) (w' : World) : Prop :=
  e = .returned (.tuple #[.pointer (some ⟨w.heap.size + 3, 0, none⟩), .map (some (w.heap.size + 4))]) ∧ ∃ v D, BInv w w' w.heap.size v ls.length ls.length ls D

set_option maxRecDepth 100000 in
set_option maxHeartbeats 1600000 in
theorem build_any (a : Option Addr) (len cap : Nat) (ls : List (ByteArray × ByteArray)) (w : World) (hl : IsLines w a len cap ls) (h4 : len ≤ 4096) (hsz : ∀ p ∈ ls, p.1.size ≤ maxLen ∧ p.2.size ≤ maxLen) :
    Calls Try.prog 13 #[.slice a len cap] w (Built w ls) := by
  obtain ⟨h1, h2, h3, h5⟩ := hl
  unfold maxLen at h3
  have hmm := @run_makeMap Try.prog
  obtain ⟨i0, hi, hz0, hz1, hz2⟩ := info_parts Try.info3
  have HL : Hid (ls.length = len) := h1
  have HS : Hid (∀ p ∈ ls, p.1.size ≤ maxLen ∧ p.2.size ≤ maxLen) := hsz
  have HB0 := hide (BInv.start w ls)
  clear h1 hsz
  go_enter Try.func13, Try.ntmps13
  go_wp2_with (go_at_call 29; refine (newFile_any _).mono ?_; rintro e w' ⟨rfl, rfl⟩)
  rw [show w.heap.size + 1 + 1 + 1 + 1 = w.heap.size + 4 from rfl]
  go_loopw [6] (fun i wr => ∃ (k : Nat) (v : Value) (D : DataW Unit), k ≤ len ∧ i = .int .i64 k ∧ Hid (BInv w wr w.heap.size v k k ls D)) (fun i _ => len - (intOf i).toNat)
  case atStart => exact ⟨0, _, _, Nat.zero_le _, rfl, HB0⟩
  case round =>
    obtain ⟨k, v, D, hk, rfl, HB⟩ := hrel
    clear HB0
    by_cases hlt : k < len
    · rcases h5 with h6 | ⟨b, off, rfl, hc⟩
      · omega
      obtain ⟨c0, c1⟩ := hc k hlt
      have hbl : b < w.heap.size := World.block_lt_of_cell? w _ c0
      have hkl : k < ls.length := by rw [HL.out]; exact hlt
      obtain ⟨s0, hs0⟩ : ∃ s, s = (ls.getD k dfl).1 := ⟨_, rfl⟩
      obtain ⟨s1, hs1⟩ : ∃ s, s = (ls.getD k dfl).2 := ⟨_, rfl⟩
      have hsm : s0.size ≤ maxLen := by
        rw [hs0, List.getD_eq_getElem?_getD, List.getElem?_eq_getElem hkl]
        exact (HS.out _ (List.getElem_mem hkl)).1
      have HC : Hid (∀ x : World, Below w.heap.size w x → x.cell? ⟨b, off + k * 2, none⟩ = some (.string s0) ∧ x.cell? ⟨b, off + k * 2 + 1, none⟩ = some (.string s1)) := by
        intro x hx
        rw [hs0, hs1]
        exact ⟨(hx.cell hbl).trans c0, (hx.cell hbl).trans c1⟩
      have H0 : Hid (s0 = (ls.getD k dfl).1) := hs0
      have H1 : Hid (s1 = (ls.getD k dfl).2) := hs1
      clear hc c0 c1 hs0 hs1
      have HSZ : Hid (w.heap.size + 5 ≤ wr.heap.size) := HB.out.size
      obtain ⟨g0, g1⟩ := HC.out wr HB.out.below
      have hk0 : (0 : Int) ≤ (k : Int) := Int.natCast_nonneg _
      have hk1 : (k : Int) < (len : Int) := by omega
      have HA := hide (fun W (hW : BInv w W w.heap.size v k k ls D) => appendMembership_any w.heap.size s0 s1 v k (flat ls k) W hW.file hW.mem (by omega) hW.size)
      have HA2 : Hid (∀ W w1 v', BInv w W w.heap.size v k k ls D → w1.heap[w.heap.size + 3]? = some (fileObj w.heap.size v) → W.grownBy w1 v.ownBlock → w1.ownsRow (w.heap.size + 5) 77 2 v' (k + 1) (flat ls k ++ [.string s0, .string s1]) → (v'.ownBlock = v.ownBlock ∨ v'.ownBlock = some (W.heap.size + 1)) → BInv w (w1.setCell ⟨w.heap.size + 3, 1, none⟩ v') w.heap.size v' (k + 1) k ls D) := by
        intro W w1 v' hW hf hg ho hloc
        rw [H0.out, H1.out] at ho
        exact hW.appended hkl hf hg ho hloc
      go_wp2_with fail
      go_region_held3 (fun x => x.cell? ⟨b, off + k * 2, none⟩ = some (.string s0) ∧ x.cell? ⟨b, off + k * 2 + 1, none⟩ = some (.string s1))
        (first | go_keep | exact HC.out _ HB1.out.below)
        (first | (go_at_call 34; refine (HA.out _ HB.out.drew).mono ?_; rintro e w2 ⟨rfl, v', w1, hw2, hf1, hg1, ho1, hloc1⟩; have HB1 : Hid (BInv w w2 w.heap.size v' (k + 1) k ls D) := (by rw [hw2]; exact HA2.out _ _ _ HB.out.drew hf1 hg1 ho1 hloc1); clear hw2 hf1 hg1 ho1 hloc1))
      obtain ⟨u, zs, hlook, hurow, hzl, hback⟩ := HB1.out.group (by omega) H0.out hsm
      have hl0 := hlook w2.drew rfl
      have hl1 := hlook (w2.alloc (.cells #[.int .i64 k] 3)).drew (Below.heap_alloc _ _ _ (by have := HB1.out.size; omega))
      have HR := hide hurow
      have hw2s : w.heap.size + 5 ≤ w2.heap.size := HB1.out.size
      have HK : Hid (∀ (w3 : World) (gg cp : Nat), w3.ownsRow (w.heap.size + 5) 3 1 (.slice (some ⟨gg, 0, none⟩) (zs.length + 1) cp) (zs.length + 1) (zs.map (Value.int .i64) ++ [.int .i64 k]) → (w2.alloc (.cells #[.int .i64 k] 3)).drew.grownBy w3 u.ownBlock → (u.ownBlock = some gg ∨ gg = w2.heap.size + 1) →
          ∃ w4 D4, (Instr.mapUpdate 26 (.map (some (w.heap.size + 4))) (.string s0) (.slice (some ⟨gg, 0, none⟩) (zs.length + 1) cp)).run Try.prog w3 = .ok () w4 ∧ Hid (BInv w w4 w.heap.size v' (k + 1) (k + 1) ls D4) ∧ Hid (Below w.heap.size w w3)) := by
        intro w3 gg cp ho hg hat
        have hall : w2.grownBy w3 u.ownBlock := (World.grownBy_alloc w2 (.cells #[.int .i64 k] 3) u.ownBlock).trans ⟨hg.os, hg.tape, hg.output, hg.size, hg.block⟩
        obtain ⟨w4, D4, hrun4, hB4⟩ := hback w3 _ hall ho (hat.elim (fun h => Or.inl h.symm) (fun h => Or.inr (by rw [h]; rfl)))
        exact ⟨w4, D4, hrun4, hB4, HB1.out.below.grown hall (by omega) (fun j e => by have := (hurow.lt j e).1; omega)⟩
      have hb1 : zs.length + 1 ≤ maxLen := by unfold maxLen; omega
      have hb2 : (zs.length + 1) * 8 ≤ 140737488355328 := by omega
      have hb3 : w.heap.size + 5 ≤ (w2.alloc (.cells #[.int .i64 k] 3)).drew.heap.size := by show _ ≤ (w2.alloc (.cells #[.int .i64 k] 3)).heap.size; simp; omega
      have HCB : Hid (∀ x : World, Below w.heap.size w x → x.cell? ⟨b, off + k * 2, none⟩ = some (.string s0)) := fun x hx => (HC.out x hx).1
      obtain ⟨g2, _⟩ := HC.out w2 HB1.out.below
      clear hlook hurow hback g0 g1 HA HA2 HB HSZ HC
      go_wp2_with fail
      go_region_held3 (fun x => x.cell? ⟨b, off + k * 2, none⟩ = some (.string s0))
        (first | go_keep | exact HCB.out _ HB3.out.below | exact HCB.out _ HW1.out)
        ((refine step_append_lies _ (by rfl) _ _ _ (by rfl) (w.heap.size + 5) 3 i0 _ 1 8 Try.underlying34 hi hz0 hz1 hz2 rfl (by omega) u zs.length (zs.map (Value.int .i64)) (by rfl) ((HR.out.alloc _).drew) ⟨w2.heap.size, 0, none⟩ 1 1 [.int .i64 k] (by rfl) (by rfl) (World.news_of_block (cs := #[.int .i64 k]) (t := 3) (fr := (0, 0)) (heap_alloc_new w2 _)) (by simp [Value.oneCell']) (by omega) hb1 hb2 hb3 (w2.heap.size + 1) (by simp) ?_; intro gg cp w3 hown3 hgrow3 hat3 hlt3; obtain ⟨w4, D4, hrun4, HB3, HW1⟩ := HK.out w3 gg cp hown3 hgrow3 hat3; clear hown3 hgrow3 hat3))
      all_goals
        clear HK hb1 hb2 hb3 HR
        go_wp2
        go_roundw
        case rel => exact ⟨k + 1, _, _, by omega, by go_num, HB3⟩
        case measure => simp [intOf]; omega
    · have hkl : k = len := by omega
      have HE : Hid (BInv w wr w.heap.size v ls.length ls.length ls D) := by
        show BInv _ _ _ _ _ _ _ _
        rw [HL.out, ← hkl]
        exact HB.out
      clear HB hkl
      go_wp2
      go_ret2
      exact ⟨rfl, _, _, HE.out⟩

end Go.Proofs.Qxb6000458a
