/-
  Seat b6000458a: the statement 'Rows.FnLongerWayMatchesWalksSaid', out of the walk.
-/
import Derived.Test.Qxb6000458aLawWalks
import Derived.Test.Qxb6000458aOpen
import Derived.Test.Qxb6000458aHead
namespace Go.Proofs.Qxb6000458a.fnLongerWayMatchesWalks
open Go.ChangeShapes Go.WideShapes Go.ChangeAt Go.RowKit
open Go.ChangeMaps (open_string shut_string)
set_option linter.unusedVariables false

set_option maxRecDepth 100000 in
theorem lifted (os : Os) (started : os.Started) (H : Type) (enc : TypeId × Value → H) :
    ReturnsInHanded {} Try.checked os 6 .any (Rows.fnLongerWayMatchesWalksSpec.pre6 enc Try.prog Try.f6 Rows.fnLongerWayMatchesWalksRow.domain false) (Rows.fnLongerWayMatchesWalksSpec.post enc Try.prog Try.f6 false true false false) := by
  refine returnsInHanded_of_change (C := Try.checked) Try.own started (by kernel_rfl) Try.func6
    (ChangeSpec.witness6 (enc := enc) (C := Try.checked) false ⟨#[], #[.string ByteArray.empty, .int .i64 0, .slice none 0 0], []⟩ 8 (by kernel_rfl) (by kernel_rfl) (by kernel_rfl) (by kernel_rfl)) ?_
  intro W base args ds gs before hval0 hW hcnd _
  have hval : ∀ (j : Nat) t v, Try.f6.params[j]? = some t → args[j]? = some v → Value.okWide Try.prog W .any base t v := hval0
  have hW' := hW
  obtain ⟨p, q, hA0, hV, rfl, hfz, hnd⟩ := hW
  have hA : DataW.TrodAll enc Try.prog W 0 (fun _ => true) true Try.f6.params.toList args.toList ds p := hA0
  rw [Try.params6] at hA hval
  obtain ⟨v0, vs0, d0, ds0, p0, q0, hargs, rfl, rfl, h0, r0⟩ := trodAll_cons hA
  obtain ⟨v1, vs1, d1, ds1, p1, q1, rfl, rfl, rfl, h1, r1⟩ := trodAll_cons r0
  obtain ⟨v2, vs2, d2, ds2, p2, q2, rfl, rfl, rfl, h2, r2⟩ := trodAll_cons r1
  obtain ⟨rfl, rfl, rfl⟩ := trodAll_nil r2
  obtain rfl : args = #[v0, v1, v2] := by cases args; simp_all
  obtain ⟨rfl, rfl⟩ := trodVars_none hV
  obtain ⟨u, rfl, rfl, rfl, hu⟩ := open_string Try.underlying9 (hval 0 9 v0 rfl rfl) h0
  obtain ⟨l, rfl, rfl, rfl, wl⟩ := open_int Try.underlying3 (hval 1 3 v1 rfl rfl) h1
  obtain ⟨a2, len2, cap2, rfl⟩ := okWide_slice Try.underlying22 (hval 2 22 v2 rfl rfl)
  have k2 := h2
  have lt2 : ∀ x ∈ p2, x.block < W.heap.size := by obtain ⟨m, hm⟩ := k2; exact DataW.trod_lt m _ _ _ hm
  obtain ⟨ls, hl, hsz⟩ := open_lines h2
  have hlo : -9223372036854775808 ≤ l := (bounds_i64 wl).1
  clear hA0 hval0
  refine (walks_walk u l a2 len2 cap2 ls W hu hlo hl hsz).mono fun e W' ⟨he, bel⟩ => ?_
  subst he
  exact ⟨_, rfl, _, _, _, [], _, [], hW', trodAll_mk1 (shut_bool Try.underlying4 _), (trodAll_cons_mk (shut_string Try.underlying9 hu) (trodAll_cons_mk (shut_int Try.underlying3 wl) (trodAll_cons_mk (Below.trod Try.laidOut (by kernel_rfl) (of_decide_eq_true (by kernel_rfl)) k2 bel lt2) trodAll_mk0))), rfl, bel.frame _, fun h => by cases h⟩

/-! ### the closed facts, one by one -/
theorem c1 : (Rows.fnLongerWayMatchesWalksRow.wf (OpenSpec.ofChange Rows.fnLongerWayMatchesWalksSpec)) = true := by kernel_rfl
theorem c2 : (laidOutB Try.pinned.checked.prog) = true := by kernel_rfl
theorem c3 : (mapsRowed Try.pinned.checked.prog) = true := by kernel_rfl
theorem c4 : (Try.f6.params.all (Try.pinned.checked.prog.readableRec ·)) = true := by kernel_rfl
theorem c5 : (namedTie Try.pinned.checked.prog Rows.fnLongerWayMatchesWalksRow.named Rows.fnLongerWayMatchesWalksSpec.vars) = true := by kernel_rfl
theorem c6 : ((Rows.fnLongerWayMatchesWalksRow.stops == [])) = true := by kernel_rfl
theorem c7 : ((Try.pinned.checked.prog.stops == [])) = true := by kernel_rfl
theorem c8 : ((Rows.fnLongerWayMatchesWalksRow.knobs == [])) = true := by kernel_rfl
theorem c9 : ((Try.pinned.checked.prog.stopKnobs == [])) = true := by kernel_rfl
theorem c10 : ((Rows.fnLongerWayMatchesWalksRow.inPlace == Try.pinned.checked.prog.inPlace 6)) = true := by kernel_rfl
theorem c11 : ((Rows.fnLongerWayMatchesWalksRow.unfollowed == Try.pinned.checked.prog.unfollowed 6)) = true := by kernel_rfl
theorem c12 : ((Rows.fnLongerWayMatchesWalksRow.recurses == Try.pinned.checked.prog.recurses 6)) = true := by kernel_rfl
theorem c13 : ((Rows.fnLongerWayMatchesWalksRow.named == Try.pinned.checked.prog.varsNamed 6)) = true := by kernel_rfl
theorem c14 : ((Rows.fnLongerWayMatchesWalksRow.maps == (Try.f6.params.toList ++ Rows.fnLongerWayMatchesWalksSpec.plain.varTypes Try.pinned.checked.prog).any (Try.pinned.checked.prog.mapsRec ·))) = true := by kernel_rfl
theorem c15 : ((Rows.fnLongerWayMatchesWalksRow.ifaces == (Try.f6.params.toList ++ Rows.fnLongerWayMatchesWalksSpec.plain.varTypes Try.pinned.checked.prog).any (Try.pinned.checked.prog.ifacesRec ·))) = true := by kernel_rfl
theorem c16 : ((Rows.fnLongerWayMatchesWalksRow.mapsOut == Try.pinned.checked.prog.mapsAmong Try.f6.resultTypes.toList)) = true := by kernel_rfl
theorem c17 : ((Rows.fnLongerWayMatchesWalksRow.loops == (Try.f6.params.toList ++ Rows.fnLongerWayMatchesWalksSpec.plain.varTypes Try.pinned.checked.prog).any (Try.pinned.checked.prog.loopsFrom ·))) = true := by kernel_rfl
theorem c18 : ((Rows.fnLongerWayMatchesWalksRow.wideKeys == (Try.f6.params.toList ++ Rows.fnLongerWayMatchesWalksSpec.plain.varTypes Try.pinned.checked.prog ++ Try.f6.resultTypes.toList).any (Try.pinned.checked.prog.wideKeysFrom ·))) = true := by kernel_rfl
theorem c19 : (Rows.fnLongerWayMatchesWalksSpec.vars.all (Try.pinned.checked.prog.varReadable ·)) = true := by kernel_rfl
theorem c20 : (Try.f6.resultTypes.all (fun t => Try.pinned.checked.prog.readableRec t && decide (t < Try.pinned.checked.prog.types.size))) = true := by kernel_rfl
theorem c21 : ((Rows.fnLongerWayMatchesWalksRow.ifacesOut == Try.f6.resultTypes.toList.any (Try.pinned.checked.prog.ifacesRec ·))) = true := by kernel_rfl
theorem c22 : ((Rows.fnLongerWayMatchesWalksRow.loopsOut == Try.f6.resultTypes.toList.any (Try.pinned.checked.prog.loopsFrom ·))) = true := by kernel_rfl
theorem c23 : ((Rows.fnLongerWayMatchesWalksRow.plainKeys == Try.pinned.checked.prog.plainKeys)) = true := by kernel_rfl
theorem c24 : (Rows.fnLongerWayMatchesWalksRow.shortTexts.isNone) = true := by kernel_rfl
theorem c25 : (Try.pinned.checked.prog.stopsHeard) = true := by kernel_rfl
theorem c26 : Try.pinned.checked.prog.mayEnter = true := may_enter
theorem c27 : (Rows.fnLongerWayMatchesWalksRow.lifted == Try.pinned.checked.prog.liftsFinal) = true := by
  have h : Try.pinned.checked.prog.liftsFinal = false := lifts_final
  rw [h]
  rfl
theorem c28 : (Try.pinned.checked.prog.make == some Rows.fnLongerWayMatchesWalksRow.make) = true := by
  have h : Try.pinned.checked.prog.make = some .cut := make_is
  rw [h]
  rfl
theorem c29 : ((Rows.fnLongerWayMatchesWalksRow.kinds == (if Rows.fnLongerWayMatchesWalksRow.domain.isEmpty then [] else Try.f6.params.toList.map fun t => match Try.pinned.checked.prog.underlying t with | some (.int k) => some k | _ => none))) = true := by kernel_rfl
theorem c30 : ((Rows.fnLongerWayMatchesWalksRow.pinned == Rows.fnLongerWayMatchesWalksRow.pinnedBy)) = true := by kernel_rfl
theorem c31 : ((Rows.fnLongerWayMatchesWalksRow.veiled == (Try.f6.params.toList ++ Rows.fnLongerWayMatchesWalksSpec.plain.varTypes Try.pinned.checked.prog ++ Try.f6.resultTypes.toList).any (Try.pinned.checked.prog.veiledRec ·))) = true := by kernel_rfl
theorem c32 : (Rows.fnLongerWayMatchesWalksRow.veiledFits Try.pinned.checked.prog Try.f6.params.toList (Try.f6.params.toList ++ Rows.fnLongerWayMatchesWalksSpec.plain.varTypes Try.pinned.checked.prog ++ Try.f6.resultTypes.toList)) = true := by kernel_rfl
set_option maxRecDepth 100000 in
theorem closed : joinedFacts Try.pinned.checked.prog 6 Try.f6 Rows.fnLongerWayMatchesWalksSpec Rows.fnLongerWayMatchesWalksRow = true := by
  unfold joinedFacts
  exact (and_of (and_of (and_of (and_of (and_of (and_of (and_of (and_of (and_of (and_of (and_of (and_of (and_of (and_of (and_of (and_of (and_of (and_of (and_of (and_of (and_of (and_of (and_of (and_of (and_of (and_of (and_of (and_of (and_of (and_of (and_of c1 c2) c3) c4) c5) c6) c7) c8) c9) c10) c11) c12) c13) c14) c15) c16) c17) c18) c19) c20) c21) c22) c23) c24) c25) c26) c27) c28) c29) c30) c31) c32)

theorem over : Rows.fnLongerWayMatchesWalksRow.holds Try.pinned (OpenSpec.ofChange Rows.fnLongerWayMatchesWalksSpec) :=
  OpenClaim.holds_of_wide 6 Try.f6 rfl rfl rfl rfl rfl rfl rfl ⟨rfl, rfl, rfl, rfl, rfl⟩ rfl rfl rfl rfl rfl (by kernel_rfl) Try.func6 closed
    (of_decide_eq_true (by kernel_rfl)) (by unfold Func.isWrapper; first | (rw [if_pos (by decide +kernel)]; kernel_rfl) | (rw [if_neg (by decide +kernel)]; exact ⟨rfl, rfl⟩))
    (fun os started H enc _ => lifted os started H enc)

end Go.Proofs.Qxb6000458a.fnLongerWayMatchesWalks

namespace Go.Proofs.Qxb6000458a
/-- THE STATEMENT -/
theorem fnLongerWayMatchesWalks_holds : Rows.FnLongerWayMatchesWalksSaid := fnLongerWayMatchesWalks.over
#print axioms fnLongerWayMatchesWalks_holds
end Go.Proofs.Qxb6000458a
