/-
  Seat b6000458a: withinMaxLinks, the walk.
-/
import Derived.Test.Qxb6000458aWithin
namespace Go.Proofs.Qxb6000458a
open Go.RowKit Go.WideMaps Go.Maps

/-- the c-th role of a member -/
theorem drop_role {ls : List (ByteArray × ByteArray)} {s : ByteArray} {c j : Nat} (hc : c < (idxsTo ls ls.length s).length) (hj : (idxsTo ls ls.length s).getD c 0 = (j : Int)) : (Pure.outs ls s).drop c = (ls.getD j dfl).2 :: (Pure.outs ls s).drop (c + 1) := by
  rw [outs_eq, List.drop_eq_getElem_cons (by simpa using hc), List.getElem_map]
  congr 1
  rw [List.getD_eq_getElem?_getD, List.getElem?_eq_getElem hc] at hj
  have hj' : (idxsTo ls ls.length s)[c] = (j : Int) := hj
  rw [hj']
  rfl

set_option maxRecDepth 100000 in
set_option maxHeartbeats 3200000 in
theorem within_any (B N : Nat) (ls : List (ByteArray × ByteArray)) (u : ByteArray) (w : World) (hF : FileAt B w N ls) (h4 : ls.length ≤ 4096) (hu : u.size ≤ maxLen) (hsz : ∀ p ∈ ls, p.1.size ≤ maxLen ∧ p.2.size ≤ maxLen) :
    Calls Try.prog 35 #[.pointer (some ⟨N + 3, 0, none⟩), .string u, .map (some (N + 4))] w (WithinPost w ls u) := by
  have hmm := @run_makeMap Try.prog
  obtain ⟨i0, hi, hz0, hz1, hz2⟩ := info_parts Try.info9
  obtain ⟨w1, hrun1, hM1, hg1⟩ := set_put (R := []) (MapIs.made w Try.prog 9) hu rfl (by unfold maxLen; decide) Try.underlying59
  have HW0 := hide (WInv.start ls hM1 hg1)
  have HF : Hid (∀ x, Below w.heap.size w x → FileAt B x N ls) := fun x hx => hF.kept (hx.mono hF.hi)
  obtain ⟨mi, fi, hMi, hRi⟩ := hF.idx
  have HX : Hid (∀ x, Below w.heap.size w x → MapIs x Try.prog 9 (N + 4) mi fi ∧ ∀ s : ByteArray, s.size ≤ maxLen → RowAt B x ((fi (keyL s)).getD (.slice none 0 0)) (idxsTo ls ls.length s)) := fun x hx =>
    ⟨hMi.kept (hx.block _ hMi.lt), fun s hs => (hRi s hs).kept (hx.mono hF.hi)⟩
  clear hMi hRi
  have HP : Hid (∀ a, a ∈ pool u ls → a.size ≤ maxLen) := fun a ha => pool_size hu hsz ha
  clear hM1 hg1 hF hsz hu
  go_enter Try.func35, Try.ntmps35
  go_wp2_with fail
  go_loopw [9, 10] (fun vF i wr => ∃ (l : Nat) (R F : List ByteArray), l ≤ 10 ∧ i = .int .i64 l ∧ Hid (Pure.bfs ls (10 - l) R F = Pure.within ls u) ∧ Hid (WInv w wr u ls R F [] vF (.slice none 0 0))) (fun _ i _ => 10 - (intOf i).toNat)
  case atStart => exact ⟨0, [u], [u], Nat.zero_le _, rfl, rfl, HW0⟩
  case round =>
    obtain ⟨l, R, F, hl, rfl, HB, HW⟩ := hrel
    clear HW0 hrun1
    have hfl : F.length ≤ 4097 := by have := HW.out.farLen; omega
    obtain ⟨av, cv, hvF, hcF⟩ := strings_shape HW.out.far
    subst hvF
    have HC := hide hcF
    clear hcF
    by_cases hlt : l < 10
    · by_cases hF0 : 0 < F.length
      · go_wp2_with fail
        go_loopw [11, 33] (fun vN i wr => ∃ (a : Nat) (R' N' : List ByteArray), a ≤ F.length ∧ i = .int .i64 a ∧ Hid (((F.drop a).flatMap (Pure.outs ls)).foldl Pure.visit (R', N') = Pure.roundF ls R F) ∧ Hid (WInv w wr u ls R' F N' (.slice av F.length cv) vN)) (fun _ i _ => F.length - (intOf i).toNat)
        case atStart => exact ⟨0, R, [], Nat.zero_le _, rfl, rfl, HW⟩
        case round =>
          obtain ⟨a, R', N', ha, rfl, HV, HWm⟩ := hrel
          by_cases halt : a < F.length
          · obtain ⟨gF, hav, _⟩ := HC.out hF0
            obtain ⟨_, _, hsh, hcs⟩ := strings_shape HWm.out.far
            simp only [Value.slice.injEq, true_and] at hsh
            obtain ⟨e1, e2⟩ := hsh
            subst e1
            subst e2
            obtain ⟨gF', hav', hcg⟩ := hcs hF0
            rw [hav] at hav'
            simp only [Option.some.injEq, Addr.mk.injEq, and_true] at hav'
            subst hav'
            subst hav
            obtain ⟨nm, hnm⟩ : ∃ nm, nm = F.getD a ByteArray.empty := ⟨_, rfl⟩
            have hcn := hcg a halt
            rw [← hnm] at hcn
            have hnp : nm ∈ pool u ls := HWm.out.farFrom _ (by rw [hnm, List.getD_eq_getElem?_getD, List.getElem?_eq_getElem halt]; exact List.getElem_mem halt)
            have hns : nm.size ≤ maxLen := HP.out nm hnp
            have HNM := hide hnm
            obtain ⟨hMi, hRi⟩ := HX.out wr HWm.out.below
            have hrow := hRi nm hns
            have hlk := hMi.look law9 Try.underlying26 (zero34 wr) (keyOf_string_mk Try.underlying9 hns)
            obtain ⟨v, hv⟩ : ∃ v, v = (fi (keyL nm)).getD (.slice none 0 0) := ⟨_, rfl⟩
            have hlk' : (Instr.lookup 26 (.map (some (N + 4))) (.string nm) false).run Try.prog wr = .ok v wr := by rw [hv]; exact hlk
            rw [← hv] at hrow
            have HR : Hid (∀ x, Below w.heap.size w x → RowAt B x v (idxsTo ls ls.length nm)) := fun x hx => by rw [hv]; exact (HX.out x hx).2 nm hns
            obtain ⟨n, hn⟩ : ∃ n, n = (idxsTo ls ls.length nm).length := ⟨_, rfl⟩
            obtain ⟨ai, ci, hvi⟩ : ∃ ai ci, v = .slice ai n ci := by
              rw [hn]
              rcases hrow with ⟨e, e'⟩ | ⟨g, cap, e, _⟩
              · exact ⟨none, 0, by rw [e', e]; rfl⟩
              · exact ⟨_, _, e⟩
            subst hvi
            have hnl : n ≤ 4096 := by have := idxs_length ls ls.length nm; omega
            have HN := hide hn
            clear hcs hcg hnm hnp hMi hRi hlk hv hn hrow
            go_wp2_with fail
            go_loopw [11, 41] (fun vN i wr => ∃ (c : Nat) (R2 N2 : List ByteArray), c ≤ n ∧ i = .int .i64 c ∧ Hid (((Pure.outs ls nm).drop c ++ (F.drop (a + 1)).flatMap (Pure.outs ls)).foldl Pure.visit (R2, N2) = Pure.roundF ls R F) ∧ Hid (WInv w wr u ls R2 F N2 (.slice (some ⟨gF, 0, none⟩) F.length cv) vN)) (fun _ i _ => n - (intOf i).toNat)
            case atStart =>
              refine ⟨0, R', N', Nat.zero_le _, rfl, ?_, HWm⟩
              show _ = _
              rw [← HV.out, List.drop_eq_getElem_cons halt, List.flatMap_cons, HNM.out, List.getD_eq_getElem?_getD, List.getElem?_eq_getElem halt]
              rfl
            case round =>
              obtain ⟨c, R2, N2, hc, rfl, HV2, HW2⟩ := hrel
              clear HWm HV
              by_cases hcl : c < n
              · obtain ⟨g, cap, gm, cm, j, e, k0, hjl, hzj, k1, k2, _⟩ := (HF.out wr HW2.out.below).line (HR.out wr HW2.out.below) (by rw [← HN.out]; exact hcl)
                simp only [Value.slice.injEq] at e
                obtain ⟨e1, hnn, e2⟩ := e
                clear hnn
                subst e1
                subst e2
                obtain ⟨r, hr⟩ : ∃ r, r = (ls.getD j dfl).2 := ⟨_, rfl⟩
                rw [← hr] at k2
                have hrp : r ∈ pool u ls := by rw [hr]; exact role_pool u hjl
                have hrs := HP.out r hrp
                have HD : Hid ((Pure.outs ls nm).drop c = r :: (Pure.outs ls nm).drop (c + 1)) := by rw [hr]; exact drop_role (by rw [← HN.out]; exact hcl) hzj
                have hj0 : (0 : Int) ≤ (j : Int) := Int.natCast_nonneg _
                have hlk2 := set_look HW2.out.set hrs Try.underlying59
                have hRl : R2.length ≤ 4097 := by have := HW2.out.good.len; omega
                have hNl : N2.length ≤ 4097 := by have := HW2.out.good.le; omega
                clear hr hzj
                cases hin : inR R2 r with
                | true =>
                  rw [hin] at hlk2
                  have HV3 : Hid (((Pure.outs ls nm).drop (c + 1) ++ (F.drop (a + 1)).flatMap (Pure.outs ls)).foldl Pure.visit (R2, N2) = Pure.roundF ls R F) := by
                    show _ = _
                    rw [← HV2.out, HD.out, List.cons_append, List.foldl_cons, visit_old hin]
                  clear HV2 HD hin
                  go_wp2_with fail
                  go_roundw
                  case rel => exact ⟨c + 1, R2, N2, by omega, by go_num, HV3, HW2⟩
                  case measure => simp [intOf]; omega
                | false =>
                  rw [hin] at hlk2
                  obtain ⟨w2, hrun2, hM2, hg2⟩ := set_put HW2.out.set hrs hin (by unfold maxLen; omega) Try.underlying59
                  have HM2 := hide hM2
                  have HG2 := hide hg2
                  have hw2 : w.heap.size + 1 ≤ w2.heap.size := by have := hM2.lt; omega
                  have HO : Hid (w2.ownsRow (w.heap.size + 1) 9 1 u11 N2.length (N2.map Value.string)) := HW2.out.next.kept hg2 (by
                    cases e : u11.ownBlock with
                    | none => exact Or.inl rfl
                    | some k => exact Or.inr (fun q => by have := (HW2.out.next.lt k e).1; cases q; omega))
                  have HV3 : Hid (((Pure.outs ls nm).drop (c + 1) ++ (F.drop (a + 1)).flatMap (Pure.outs ls)).foldl Pure.visit (R2 ++ [r], N2 ++ [r]) = Pure.roundF ls R F) := by
                    show _ = _
                    rw [← HV2.out, HD.out, List.cons_append, List.foldl_cons, visit_new hin]
                  have HIN := hide hin
                  have HRP := hide hrp
                  clear HV2 HD hin hM2 hg2 hrp
                  go_wp2_with (at_builtin; refine wpList_append_lies _ rfl _ _ 30 rfl (w.heap.size + 1) 9 i0 _ 1 16 Try.underlying30 hi hz0 hz1 hz2 rfl (by decide) u11 N2.length (N2.map Value.string) rfl (HO.out.alloc _) ⟨w2.heap.size, 0, none⟩ 1 1 [.string r] rfl rfl (World.news_of_block (cs := #[.string r]) (t := 9) (fr := (0, 0)) (heap_alloc_new w2 _)) (by simp [Value.oneCell']) (by decide) (by unfold maxLen; omega) (by omega) (by simp; omega) (w2.heap.size + 1) (by simp) ?_; intro gg cp w3 hown3 hgrow3 hat3 hlt3; have HW3 := hide (HW2.out.visited HRP.out HIN.out HM2.out HG2.out hgrow3 hown3 hat3); clear hown3 hgrow3 hat3 hlt3)
                  go_roundw
                  case rel => first | exact ⟨c + 1, _, _, by omega, by go_num, HV3, HW3⟩ | ((repeat apply Exists.intro); refine ⟨⟨c + 1, _, _, ?_, ?_, HV3, HW3⟩, rfl⟩ <;> first | omega | go_num)
                  case measure => simp [intOf]; omega
              · have HV3 : Hid (((F.drop (a + 1)).flatMap (Pure.outs ls)).foldl Pure.visit (R2, N2) = Pure.roundF ls R F) := by
                  show _ = _
                  have ed : (Pure.outs ls nm).drop c = [] := List.drop_of_length_le (by rw [outs_eq, List.length_map, ← HN.out]; omega)
                  rw [← HV2.out, ed, List.nil_append]
                clear HV2
                go_wp2_with fail
                go_roundw
                case rel => exact ⟨a + 1, R2, N2, by omega, by go_num, HV3, HW2⟩
                case measure => simp [intOf]; omega
          · have HV3 : Hid ((R', N') = Pure.roundF ls R F) := by
              show _ = _
              rw [← HV.out, List.drop_of_length_le (by omega)]
              rfl
            have HB2 : Hid (Pure.bfs ls (10 - (l + 1)) R' N' = Pure.within ls u) := by
              show _ = _
              rw [← HB.out, show 10 - l = (10 - (l + 1)) + 1 by omega]
              have hFn : F ≠ [] := fun q => by rw [q] at hF0; simp at hF0
              rw [Pure.bfs, if_neg hFn, ← HV3.out]
            have HW3 := hide HWm.out.shift
            clear HV HV3 HB HWm
            go_wp2_with fail
            go_roundw
            case rel => exact ⟨l + 1, R', N', by omega, by go_num, HB2, HW3⟩
            case measure => simp [intOf]; omega
      · have HE : Hid (Pure.within ls u = (R, F)) := by
          show _ = _
          have hFn : F = [] := List.length_eq_zero_iff.1 (by omega)
          rw [← HB.out, hFn]
          cases 10 - l <;> simp [Pure.bfs]
        clear HB
        go_wp2_with fail
        go_ret2
        exact ⟨_, rfl, by rw [HE.out]; exact HW.out.set, by rw [HE.out]; exact HW.out.far, HW.out.below⟩
    · have HE : Hid (Pure.within ls u = (R, F)) := by
        show _ = _
        rw [← HB.out, show 10 - l = 0 by omega]
        rfl
      clear HB
      go_wp2_with fail
      go_ret2
      exact ⟨_, rfl, by rw [HE.out]; exact HW.out.set, by rw [HE.out]; exact HW.out.far, HW.out.below⟩

end Go.Proofs.Qxb6000458a
