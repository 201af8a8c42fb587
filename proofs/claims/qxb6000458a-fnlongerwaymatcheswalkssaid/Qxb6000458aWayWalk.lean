/-
  Seat b6000458a: longerWay, the walk: by induction on the links.
-/
import Derived.Test.Qxb6000458aWay
import Derived.Test.Qxb6000458aWithinWalk
namespace Go.Proofs.Qxb6000458a
open Go.RowKit Go.WideMaps Go.Maps

/-- what longerWay leaves -/
def WayPost (wr : World) (A : Nat) (u : ByteArray) (ls : List (ByteArray × ByteArray)) (s : ByteArray) (l : Int) (e : Ending) (w' : World) : Prop :=
  e = .returned (.bool (Pure.lw ls (l + 1).toNat s)) ∧ wr.grownBy w' (some A) ∧ AnsAt w' A u ls

set_option maxRecDepth 100000 in
set_option maxHeartbeats 1600000 in
theorem way_neg (N A : Nat) (u : ByteArray) (ls : List (ByteArray × ByteArray)) (s : ByteArray) (l : Int) (wr : World) (hl : l < 0) (hA : AnsAt wr A u ls) :
    Calls Try.prog 36 #[.pointer (some ⟨N + 3, 0, none⟩), wayV s l, .map (some (N + 4)), .map (some A)] wr (WayPost wr A u ls s l) := by
  have HA := hide hA
  clear hA
  unfold wayV
  go_enter Try.func36, Try.ntmps36
  go_wp2_with fail
  go_ret
  refine ⟨?_, World.grownBy_alloc _ _ _, HA.out.kept (Below.heap_alloc _ _ _ HA.out.lt)⟩
  rw [show (l + 1).toNat = 0 by omega]
  rfl

set_option maxRecDepth 100000 in
set_option maxHeartbeats 1600000 in
theorem way_any (B N A : Nat) (u : ByteArray) (ls : List (ByteArray × ByteArray)) (h4 : ls.length ≤ 4096) (hP : ∀ a, a ∈ pool u ls → a.size ≤ maxLen) (hBA : B ≤ A) : ∀ (n : Nat) (s : ByteArray) (l : Int) (wr : World), l < n → l ≤ 4096 → s ∈ pool u ls → FileAt B wr N ls → AnsAt wr A u ls →
    Calls Try.prog 36 #[.pointer (some ⟨N + 3, 0, none⟩), wayV s l, .map (some (N + 4)), .map (some A)] wr (WayPost wr A u ls s l)
  | 0, s, l, wr, hn, _, _, _, hA => way_neg N A u ls s l wr (by omega) hA
  | n + 1, s, l, w0, hn, hl4, hs, hF, hA => by
    by_cases hneg : l < 0
    · exact way_neg N A u ls s l w0 hneg hA
    obtain ⟨k, rfl⟩ : ∃ k : Nat, l = k := ⟨l.toNat, by omega⟩
    have ih := way_any B N A u ls h4 hP hBA n
    have hss := hP s hs
    have HIH := hide ih
    have HA := hide hA
    have HF := hide hF
    have hk4 : k ≤ 4096 := by omega
    have hAlt := hA.lt
    have hk0 : (0 : Int) ≤ (k : Int) := Int.natCast_nonneg _
    have hk1 : (k : Int) ≤ 4096 := by omega
    have hA1 : (w0.alloc (.cells #[.string s, .int .i64 k] 64)).heap[A]? = w0.heap[A]? := Below.heap_alloc _ _ _ hAlt
    have hlook := hA.look (s := s) (l := k) hss hk4
    unfold wayV at hlook
    clear ih hA hF hneg
    rcases hlook with hlook | hlook
    · have hlk := hlook _ hA1
      clear hlook hA1
      unfold wayV
      go_enter Try.func36, Try.ntmps36
      go_wp2_with fail
      go_ret
      exact ⟨rfl, World.grownBy_alloc _ _ _, HA.out.kept (Below.heap_alloc _ _ _ hAlt)⟩
    · have hlk := hlook _ hA1
      obtain ⟨W1, hW1⟩ : ∃ W1, W1 = w0.alloc (.cells #[.string s, .int .i64 k] 64) := ⟨_, rfl⟩
      have HG1 : Hid (w0.grownBy W1 (some A)) := by rw [hW1]; exact World.grownBy_alloc _ _ _
      have HA1 : Hid (AnsAt W1 A u ls) := HA.out.kept (by rw [hW1]; exact hA1)
      have HF1 : Hid (FileAt B W1 N ls) := HF.out.kept (by rw [hW1]; exact (Below.refl _ _).alloc HF.out.hi _)
      have HX1 : Hid (W1.heap[w0.heap.size]? = some (.cells #[.string s, .int .i64 k] 64)) := by rw [hW1]; exact heap_alloc_new _ _
      rw [← hW1] at hlk
      -- what holds of every later world
      obtain ⟨mi, fi, hMi, hRi⟩ := HF1.out.idx
      have hrow := hRi s hss
      have hlk2 : (Instr.lookup 26 (.map (some (N + 4))) (.string s) false).run Try.prog W1 = .ok ((fi (keyL s)).getD (.slice none 0 0)) W1 := hMi.look law9 Try.underlying26 (zero34 W1) (keyOf_string_mk Try.underlying9 hss)
      obtain ⟨v, hv⟩ : ∃ v, v = (fi (keyL s)).getD (.slice none 0 0) := ⟨_, rfl⟩
      rw [← hv] at hrow hlk2
      obtain ⟨m, hm⟩ : ∃ m, m = (idxsTo ls ls.length s).length := ⟨_, rfl⟩
      obtain ⟨ai, ci, hvi⟩ : ∃ ai ci, v = .slice ai m ci := by
        rw [hm]
        rcases hrow with ⟨e, e'⟩ | ⟨g, cap, e, _⟩
        · exact ⟨none, 0, by rw [e', e]; rfl⟩
        · exact ⟨_, _, e⟩
      have hml : m ≤ 4096 := by have := idxs_length ls ls.length s; omega
      subst hvi
      have HR : Hid (∀ x, Below B W1 x → RowAt B x (.slice ai m ci) (idxsTo ls ls.length s)) := fun x hx => hrow.kept hx
      have HM := hide hm
      have HS := hide hs
      have hb0 : B ≤ w0.heap.size := HF.out.hi
      clear hv hMi hRi hrow hm hs hlook hA1 HA HF
      subst hW1
      unfold wayV
      go_enter Try.func36, Try.ntmps36
      go_wp2_with fail
      go_loopw [11, 30] (fun lg i wx => ∃ c : Nat, c ≤ m ∧ lg = .bool false ∧ i = .int .i64 c ∧ Hid (((Pure.outs ls s).drop c).any (Pure.lw ls k) = (Pure.outs ls s).any (Pure.lw ls k)) ∧ Hid (w0.grownBy wx (some A)) ∧
          Hid (wx.heap[w0.heap.size]? = some (.cells #[.string s, .int .i64 k] 64)) ∧ Hid (AnsAt wx A u ls) ∧ Hid (FileAt B wx N ls) ∧ Hid (Below B (w0.alloc (.cells #[.string s, .int .i64 k] 64)) wx)) (fun _ i _ => m - (intOf i).toNat)
      case atStart => exact ⟨0, Nat.zero_le _, rfl, rfl, rfl, HG1, HX1, HA1, HF1, Below.refl _ _⟩
      case round =>
        obtain ⟨c, hc, rfl, rfl, HO, HG, HX, HA, HF, HB⟩ := hrel
        have x0 : wr.cell? ⟨w0.heap.size, 0, none⟩ = some (.string s) := by rw [cell_of_row wr w0.heap.size 0 _ _ _ HX.out]; rfl
        have x1 : wr.cell? ⟨w0.heap.size, 1, none⟩ = some (.int .i64 k) := by rw [cell_of_row wr w0.heap.size 1 _ _ _ HX.out]; rfl
        clear HG1 HX1 HA1 HF1 hlk hlk2
        by_cases hcl : c < m
        · obtain ⟨g, cap, gm, cm, j, e, k0, hjl, hzj, k1, k2, hgm⟩ := HF.out.line (HR.out wr HB.out) (by rw [← HM.out]; exact hcl)
          simp only [Value.slice.injEq] at e
          obtain ⟨e1, hnn, e2⟩ := e
          clear hnn
          subst e1
          subst e2
          obtain ⟨r, hr⟩ : ∃ r, r = (ls.getD j dfl).2 := ⟨_, rfl⟩
          rw [← hr] at k2
          have hrp : r ∈ pool u ls := by rw [hr]; exact role_pool u hjl
          have HD : Hid ((Pure.outs ls s).drop c = r :: (Pure.outs ls s).drop (c + 1)) := by rw [hr]; exact drop_role (by rw [← HM.out]; exact hcl) hzj
          have hj0 : (0 : Int) ≤ (j : Int) := Int.natCast_nonneg _
          have hj1 : (j : Int) < (ls.length : Int) := by omega
          have HC : Hid (∀ x, FileAt B x N ls → AnsAt x A u ls → Calls Try.prog 36 #[.pointer (some ⟨N + 3, 0, none⟩), .agg #[.string r, .int .i64 ((k : Int) - 1)], .map (some (N + 4)), .map (some A)] x (fun e w' => e = .returned (.bool (Pure.lw ls k r)) ∧ x.grownBy w' (some A) ∧ AnsAt w' A u ls)) := by
            intro x h1 h2
            have h3 := HIH.out r ((k : Int) - 1) x (by omega) (by omega) hrp h1 h2
            refine h3.mono ?_
            rintro e w' ⟨e1, e2, e3⟩
            refine ⟨?_, e2, e3⟩
            rw [e1, show ((k : Int) - 1 + 1).toNat = k by omega]
          have HN : Hid (∀ w2, wr.drew.grownBy w2 (some A) → (w2.cell? ⟨N + 3, 1, none⟩ = some (.slice (some ⟨gm, 0, none⟩) ls.length cm) ∧ w2.cell? ⟨gm, j * 2 + 1, none⟩ = some (.string r) ∧ w2.cell? ⟨w0.heap.size, 1, none⟩ = some (.int .i64 k)) ∧
              Hid (w0.grownBy w2 (some A)) ∧ Hid (w2.heap[w0.heap.size]? = some (.cells #[.string s, .int .i64 k] 64)) ∧ Hid (FileAt B w2 N ls) ∧ Hid (Below B (w0.alloc (.cells #[.string s, .int .i64 k] 64)) w2)) := by
            intro w2 hg
            have hg' : wr.grownBy w2 (some A) := ⟨hg.os, hg.tape, hg.output, hg.size, hg.block⟩
            have hlo := HF.out.lo
            have hb2 : Below B wr w2 := (Below.refl B wr).grown hg' HF.out.hi (fun q e => by cases e; exact hBA)
            have hx2 : w2.heap[w0.heap.size]? = some (.cells #[.string s, .int .i64 k] 64) := (hg'.block w0.heap.size (lt_of_block HX.out) (fun e => by cases e; omega)).trans HX.out
            refine ⟨⟨?_, ?_, ?_⟩, HG.out.trans hg', hx2, HF.out.kept hb2, HB.out.trans hb2⟩
            · exact (hb2.cell (show N + 3 < B by omega)).trans k1
            · exact (hb2.cell (show gm < B from hgm)).trans k2
            · rw [cell_of_row w2 w0.heap.size 1 _ _ _ hx2]
              rfl
          have hwrap : IntKind.i64.wrap ((k : Int) - 1) = (k : Int) - 1 := IntWalk.i64_in _ (by omega)
          clear hr hzj hrp
          cases hb : Pure.lw ls k r with
          | true =>
            rw [hb] at HC
            have HT : Hid (Pure.lw ls (k + 1) s = true) := by
              show (Pure.outs ls s).any (Pure.lw ls k) = true
              rw [← HO.out, HD.out, List.any_cons, hb]
              rfl
            clear hb HO HD
            go_wp2_with fail
            go_region_held3 (fun x => x.cell? ⟨N + 3, 1, none⟩ = some (.slice (some ⟨gm, 0, none⟩) ls.length cm) ∧ x.cell? ⟨gm, j * 2 + 1, none⟩ = some (.string r) ∧ x.cell? ⟨w0.heap.size, 1, none⟩ = some (.int .i64 k))
              (first | go_keep | exact hS2)
              (first | (go_at_call 36; refine (HC.out _ (HF.out.kept (Below.refl _ _).drew) (HA.out.kept rfl)).mono ?_; rintro e w2 ⟨rfl, hg2, hA2⟩; obtain ⟨hS2, HG2, HX2, HF2, HB2⟩ := HN.out w2 hg2; have HA2 := hide hA2; clear hg2 hA2))
            obtain ⟨w3, hput, hA3, hg3⟩ := HA2.out.put h4 HS.out hss hk4
            rw [HT.out] at hput
            unfold wayV at hput
            have y0 : w2.cell? ⟨w0.heap.size, 0, none⟩ = some (.string s) := by rw [cell_of_row w2 w0.heap.size 0 _ _ _ HX2.out]; rfl
            have y1 : w2.cell? ⟨w0.heap.size, 1, none⟩ = some (.int .i64 k) := by rw [cell_of_row w2 w0.heap.size 1 _ _ _ HX2.out]; rfl
            have HA3 := hide hA3
            have HG3 := hide hg3
            clear hA3 hg3 HC HN hS2 k0 k1 k2 x0 x1
            go_wp2_with fail
            go_ret
            refine ⟨?_, HG2.out.trans HG3.out, HA3.out⟩
            rw [show ((k : Int) + 1).toNat = k + 1 by omega, HT.out]
            rfl
          | false =>
            rw [hb] at HC
            have HO2 : Hid (((Pure.outs ls s).drop (c + 1)).any (Pure.lw ls k) = (Pure.outs ls s).any (Pure.lw ls k)) := by
              show _ = _
              rw [← HO.out, HD.out, List.any_cons, hb]
              rfl
            clear hb HO HD
            go_wp2_with fail
            go_region_held3 (fun x => x.cell? ⟨N + 3, 1, none⟩ = some (.slice (some ⟨gm, 0, none⟩) ls.length cm) ∧ x.cell? ⟨gm, j * 2 + 1, none⟩ = some (.string r) ∧ x.cell? ⟨w0.heap.size, 1, none⟩ = some (.int .i64 k))
              (first | go_keep | exact hS2)
              (first | (go_at_call 36; refine (HC.out _ (HF.out.kept (Below.refl _ _).drew) (HA.out.kept rfl)).mono ?_; rintro e w2 ⟨rfl, hg2, hA2⟩; obtain ⟨hS2, HG2, HX2, HF2, HB2⟩ := HN.out w2 hg2; have HA2 := hide hA2; clear hg2 hA2))
            clear HC HN hS2 k0 k1 k2 x0 x1
            go_wp2_with fail
            go_roundw
            case rel => exact ⟨c + 1, by omega, rfl, by go_num, HO2, HG2, HX2, HA2, HF2, HB2⟩
            case measure => simp [intOf]; omega
        · have HT : Hid (Pure.lw ls (k + 1) s = false) := by
            show (Pure.outs ls s).any (Pure.lw ls k) = false
            rw [← HO.out, List.drop_of_length_le (by rw [outs_eq, List.length_map, ← HM.out]; omega)]
            rfl
          obtain ⟨w3, hput, hA3, hg3⟩ := HA.out.put h4 HS.out hss hk4
          rw [HT.out] at hput
          unfold wayV at hput
          have HA3 := hide hA3
          have HG3 := hide hg3
          clear hA3 hg3 HO
          go_wp2_with fail
          go_ret
          refine ⟨?_, HG.out.trans HG3.out, HA3.out⟩
          rw [show ((k : Int) + 1).toNat = k + 1 by omega, HT.out]
          rfl

end Go.Proofs.Qxb6000458a
