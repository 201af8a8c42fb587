/-
  Seat b6000458a: the statement 'Rows.FnWithinMaxLinksMatchesShortestWaysSaid', out of the walk.
-/
import Derived.Test.Qxb6000458aLawShort
import Derived.Test.Qxb6000458aOpen
import Derived.Test.Qxb6000458aHead
namespace Go.Proofs.Qxb6000458a.fnWithinMaxLinksMatchesShortestWays
open Go.ChangeShapes Go.WideShapes Go.ChangeAt Go.RowKit
open Go.ChangeMaps (open_string shut_string)
set_option linter.unusedVariables false

set_option maxRecDepth 100000 in
theorem lifted (os : Os) (started : os.Started) (H : Type) (enc : TypeId × Value → H) :
    ReturnsInHanded {} Try.checked os 3 .any (Rows.fnWithinMaxLinksMatchesShortestWaysSpec.pre6 enc Try.prog Try.f3 Rows.fnWithinMaxLinksMatchesShortestWaysRow.domain false) (Rows.fnWithinMaxLinksMatchesShortestWaysSpec.post enc Try.prog Try.f3 false true false false) := by
  refine returnsInHanded_of_change (C := Try.checked) Try.own started (by kernel_rfl) Try.func3
    (ChangeSpec.witness6 (enc := enc) (C := Try.checked) false ⟨#[], #[.string ByteArray.empty, .slice none 0 0], []⟩ 8 (by kernel_rfl) (by kernel_rfl) (by kernel_rfl) (by kernel_rfl)) ?_
  intro W base args ds gs before hval0 hW hcnd _
  have hval : ∀ (j : Nat) t v, Try.f3.params[j]? = some t → args[j]? = some v → Value.okWide Try.prog W .any base t v := hval0
  have hW' := hW
  obtain ⟨p, q, hA0, hV, rfl, hfz, hnd⟩ := hW
  have hA : DataW.TrodAll enc Try.prog W 0 (fun _ => true) true Try.f3.params.toList args.toList ds p := hA0
  rw [Try.params3] at hA hval
  obtain ⟨v0, vs0, d0, ds0, p0, q0, hargs, rfl, rfl, h0, r0⟩ := trodAll_cons hA
  obtain ⟨v1, vs1, d1, ds1, p1, q1, rfl, rfl, rfl, h1, r1⟩ := trodAll_cons r0
  obtain ⟨rfl, rfl, rfl⟩ := trodAll_nil r1
  obtain rfl : args = #[v0, v1] := by cases args; simp_all
  obtain ⟨rfl, rfl⟩ := trodVars_none hV
  obtain ⟨u, rfl, rfl, rfl, hu⟩ := open_string Try.underlying9 (hval 0 9 v0 rfl rfl) h0
  obtain ⟨a1, len1, cap1, rfl⟩ := okWide_slice Try.underlying22 (hval 1 22 v1 rfl rfl)
  have k1 := h1
  have lt1 : ∀ x ∈ p1, x.block < W.heap.size := by obtain ⟨m, hm⟩ := k1; exact DataW.trod_lt m _ _ _ hm
  obtain ⟨ls, hl, hsz⟩ := open_lines h1
  clear hA0 hval0
  refine (short_walk u a1 len1 cap1 ls W hu hl hsz).mono fun e W' ⟨he, bel⟩ => ?_
  subst he
  exact ⟨_, rfl, _, _, _, [], _, [], hW', trodAll_mk1 (shut_bool Try.underlying4 _), (trodAll_cons_mk (shut_string Try.underlying9 hu) (trodAll_cons_mk (Below.trod Try.laidOut (by kernel_rfl) (of_decide_eq_true (by kernel_rfl)) k1 bel lt1) trodAll_mk0)), rfl, bel.frame _, fun h => by cases h⟩

/-! ### the closed facts, one by one -/
theorem c1 : (Rows.fnWithinMaxLinksMatchesShortestWaysRow.wf (OpenSpec.ofChange Rows.fnWithinMaxLinksMatchesShortestWaysSpec)) = true := by kernel_rfl
theorem c2 : (laidOutB Try.pinned.checked.prog) = true := by kernel_rfl
theorem c3 : (mapsRowed Try.pinned.checked.prog) = true := by kernel_rfl
theorem c4 : (Try.f3.params.all (Try.pinned.checked.prog.readableRec ·)) = true := by kernel_rfl
theorem c5 : (namedTie Try.pinned.checked.prog Rows.fnWithinMaxLinksMatchesShortestWaysRow.named Rows.fnWithinMaxLinksMatchesShortestWaysSpec.vars) = true := by kernel_rfl
theorem c6 : ((Rows.fnWithinMaxLinksMatchesShortestWaysRow.stops == [])) = true := by kernel_rfl
theorem c7 : ((Try.pinned.checked.prog.stops == [])) = true := by kernel_rfl
theorem c8 : ((Rows.fnWithinMaxLinksMatchesShortestWaysRow.knobs == [])) = true := by kernel_rfl
theorem c9 : ((Try.pinned.checked.prog.stopKnobs == [])) = true := by kernel_rfl
theorem c10 : ((Rows.fnWithinMaxLinksMatchesShortestWaysRow.inPlace == Try.pinned.checked.prog.inPlace 3)) = true := by kernel_rfl
theorem c11 : ((Rows.fnWithinMaxLinksMatchesShortestWaysRow.unfollowed == Try.pinned.checked.prog.unfollowed 3)) = true := by kernel_rfl
theorem c12 : ((Rows.fnWithinMaxLinksMatchesShortestWaysRow.recurses == Try.pinned.checked.prog.recurses 3)) = true := by kernel_rfl
theorem c13 : ((Rows.fnWithinMaxLinksMatchesShortestWaysRow.named == Try.pinned.checked.prog.varsNamed 3)) = true := by kernel_rfl
theorem c14 : ((Rows.fnWithinMaxLinksMatchesShortestWaysRow.maps == (Try.f3.params.toList ++ Rows.fnWithinMaxLinksMatchesShortestWaysSpec.plain.varTypes Try.pinned.checked.prog).any (Try.pinned.checked.prog.mapsRec ·))) = true := by kernel_rfl
theorem c15 : ((Rows.fnWithinMaxLinksMatchesShortestWaysRow.ifaces == (Try.f3.params.toList ++ Rows.fnWithinMaxLinksMatchesShortestWaysSpec.plain.varTypes Try.pinned.checked.prog).any (Try.pinned.checked.prog.ifacesRec ·))) = true := by kernel_rfl
theorem c16 : ((Rows.fnWithinMaxLinksMatchesShortestWaysRow.mapsOut == Try.pinned.checked.prog.mapsAmong Try.f3.resultTypes.toList)) = true := by kernel_rfl
theorem c17 : ((Rows.fnWithinMaxLinksMatchesShortestWaysRow.loops == (Try.f3.params.toList ++ Rows.fnWithinMaxLinksMatchesShortestWaysSpec.plain.varTypes Try.pinned.checked.prog).any (Try.pinned.checked.prog.loopsFrom ·))) = true := by kernel_rfl
theorem c18 : ((Rows.fnWithinMaxLinksMatchesShortestWaysRow.wideKeys == (Try.f3.params.toList ++ Rows.fnWithinMaxLinksMatchesShortestWaysSpec.plain.varTypes Try.pinned.checked.prog ++ Try.f3.resultTypes.toList).any (Try.pinned.checked.prog.wideKeysFrom ·))) = true := by kernel_rfl
theorem c19 : (Rows.fnWithinMaxLinksMatchesShortestWaysSpec.vars.all (Try.pinned.checked.prog.varReadable ·)) = true := by kernel_rfl
theorem c20 : (Try.f3.resultTypes.all (fun t => Try.pinned.checked.prog.readableRec t && decide (t < Try.pinned.checked.prog.types.size))) = true := by kernel_rfl
theorem c21 : ((Rows.fnWithinMaxLinksMatchesShortestWaysRow.ifacesOut == Try.f3.resultTypes.toList.any (Try.pinned.checked.prog.ifacesRec ·))) = true := by kernel_rfl
theorem c22 : ((Rows.fnWithinMaxLinksMatchesShortestWaysRow.loopsOut == Try.f3.resultTypes.toList.any (Try.pinned.checked.prog.loopsFrom ·))) = true := by kernel_rfl
theorem c23 : ((Rows.fnWithinMaxLinksMatchesShortestWaysRow.plainKeys == Try.pinned.checked.prog.plainKeys)) = true := by kernel_rfl
theorem c24 : (Rows.fnWithinMaxLinksMatchesShortestWaysRow.shortTexts.isNone) = true := by kernel_rfl
theorem c25 : (Try.pinned.checked.prog.stopsHeard) = true := by kernel_rfl
theorem c26 : Try.pinned.checked.prog.mayEnter = true := may_enter
theorem c27 : (Rows.fnWithinMaxLinksMatchesShortestWaysRow.lifted == Try.pinned.checked.prog.liftsFinal) = true := by
  have h : Try.pinned.checked.prog.liftsFinal = false := lifts_final
  rw [h]
  rfl
theorem c28 : (Try.pinned.checked.prog.make == some Rows.fnWithinMaxLinksMatchesShortestWaysRow.make) = true := by
  have h : Try.pinned.checked.prog.make = some .cut := make_is
  rw [h]
  rfl
theorem c29 : ((Rows.fnWithinMaxLinksMatchesShortestWaysRow.kinds == (if Rows.fnWithinMaxLinksMatchesShortestWaysRow.domain.isEmpty then [] else Try.f3.params.toList.map fun t => match Try.pinned.checked.prog.underlying t with | some (.int k) => some k | _ => none))) = true := by kernel_rfl
theorem c30 : ((Rows.fnWithinMaxLinksMatchesShortestWaysRow.pinned == Rows.fnWithinMaxLinksMatchesShortestWaysRow.pinnedBy)) = true := by kernel_rfl
theorem c31 : ((Rows.fnWithinMaxLinksMatchesShortestWaysRow.veiled == (Try.f3.params.toList ++ Rows.fnWithinMaxLinksMatchesShortestWaysSpec.plain.varTypes Try.pinned.checked.prog ++ Try.f3.resultTypes.toList).any (Try.pinned.checked.prog.veiledRec ·))) = true := by kernel_rfl
theorem c32 : (Rows.fnWithinMaxLinksMatchesShortestWaysRow.veiledFits Try.pinned.checked.prog Try.f3.params.toList (Try.f3.params.toList ++ Rows.fnWithinMaxLinksMatchesShortestWaysSpec.plain.varTypes Try.pinned.checked.prog ++ Try.f3.resultTypes.toList)) = true := by kernel_rfl
set_option maxRecDepth 100000 in
theorem closed : joinedFacts Try.pinned.checked.prog 3 Try.f3 Rows.fnWithinMaxLinksMatchesShortestWaysSpec Rows.fnWithinMaxLinksMatchesShortestWaysRow = true := by
  unfold joinedFacts
  exact (and_of (and_of (and_of (and_of (and_of (and_of (and_of (and_of (and_of (and_of (and_of (and_of (and_of (and_of (and_of (and_of (and_of (and_of (and_of (and_of (and_of (and_of (and_of (and_of (and_of (and_of (and_of (and_of (and_of (and_of (and_of c1 c2) c3) c4) c5) c6) c7) c8) c9) c10) c11) c12) c13) c14) c15) c16) c17) c18) c19) c20) c21) c22) c23) c24) c25) c26) c27) c28) c29) c30) c31) c32)

theorem over : Rows.fnWithinMaxLinksMatchesShortestWaysRow.holds Try.pinned (OpenSpec.ofChange Rows.fnWithinMaxLinksMatchesShortestWaysSpec) :=
  OpenClaim.holds_of_wide 3 Try.f3 rfl rfl rfl rfl rfl rfl rfl ⟨rfl, rfl, rfl, rfl, rfl⟩ rfl rfl rfl rfl rfl (by kernel_rfl) Try.func3 closed
    (of_decide_eq_true (by kernel_rfl)) (by unfold Func.isWrapper; first | (rw [if_pos (by decide +kernel)]; kernel_rfl) | (rw [if_neg (by decide +kernel)]; exact ⟨rfl, rfl⟩))
    (fun os started H enc _ => lifted os started H enc)

end Go.Proofs.Qxb6000458a.fnWithinMaxLinksMatchesShortestWays

namespace Go.Proofs.Qxb6000458a
/-- THE STATEMENT -/
theorem fnWithinMaxLinksMatchesShortestWays_holds : Rows.FnWithinMaxLinksMatchesShortestWaysSaid := fnWithinMaxLinksMatchesShortestWays.over
#print axioms fnWithinMaxLinksMatchesShortestWays_holds
end Go.Proofs.Qxb6000458a
