/-
  The statement 'Rows.FnWindowIsTheRowsAfterOffsetUpToCountSaid', out of the walk.
-/
import Derived.Test.Qxb6001672aWindow
import Derived.Test.Qxb6001672aHead
import Derived.ProofKit
import Derived.OpenShut
import Derived.ShutString
import Derived.ChangeOld
import Derived.Below
namespace Go.Proofs.Qxb6001672a.fnWindowIsTheRowsAfterOffsetUpToCount
open Go.ChangeShapes Go.WideShapes Go.ChangeAt Go.RowKit
open Go.ChangeMaps (open_string shut_string)
set_option linter.unusedVariables false

theorem own : ownKnob Try.prog.godebug = none := by kernel_rfl
theorem laidOut : laidOutB Try.prog = true := by kernel_rfl

set_option maxRecDepth 100000 in
theorem lifted (os : Os) (started : os.Started) (H : Type) (enc : TypeId × Value → H) :
    ReturnsInHanded {} Try.checked os 3 .any (Rows.fnWindowIsTheRowsAfterOffsetUpToCountSpec.pre6 enc Try.prog Try.f3 Rows.fnWindowIsTheRowsAfterOffsetUpToCountRow.domain false) (Rows.fnWindowIsTheRowsAfterOffsetUpToCountSpec.post enc Try.prog Try.f3 false true false false) := by
  refine returnsInHanded_of_change (C := Try.checked) own started (by kernel_rfl) Try.func3
    (ChangeSpec.witness6 (enc := enc) (C := Try.checked) false ⟨#[], #[.int .i64 0, .int .i64 0, .int .i64 0], []⟩ 8 (by kernel_rfl) (by kernel_rfl) (by kernel_rfl) (by kernel_rfl)) ?_
  intro W base args ds gs before hval0 hW hcnd _
  have hval : ∀ (j : Nat) t v, Try.f3.params[j]? = some t → args[j]? = some v → Value.okWide Try.prog W .any base t v := hval0
  have hW' := hW
  obtain ⟨p, q, hA0, hV, rfl, hfz, hnd⟩ := hW
  have hA : DataW.TrodAll enc Try.prog W 0 (fun _ => true) true Try.f3.params.toList args.toList ds p := hA0
  rw [Try.params3] at hA hval
  obtain ⟨v0, vs0, d0, ds0, p0, q0, hargs, rfl, rfl, h0, r0⟩ := trodAll_cons hA
  obtain ⟨v1, vs1, d1, ds1, p1, q1, rfl, rfl, rfl, h1, r1⟩ := trodAll_cons r0
  obtain ⟨v2, vs2, d2, ds2, p2, q2, rfl, rfl, rfl, h2, r2⟩ := trodAll_cons r1
  obtain ⟨rfl, rfl, rfl⟩ := trodAll_nil r2
  obtain rfl : args = #[v0, v1, v2] := by cases args; simp_all
  obtain ⟨rfl, rfl⟩ := trodVars_none hV
  obtain ⟨a0, rfl, rfl, rfl, w0⟩ := open_int Try.underlying3 (hval 0 3 v0 rfl rfl) h0
  obtain ⟨a1, rfl, rfl, rfl, w1⟩ := open_int Try.underlying3 (hval 1 3 v1 rfl rfl) h1
  obtain ⟨a2, rfl, rfl, rfl, w2⟩ := open_int Try.underlying3 (hval 2 3 v2 rfl rfl) h2
  clear hA0 hval0
  refine (window_walk a0 a1 a2 W (bounds_i64 w0).1 (bounds_i64 w0).2 (bounds_i64 w1).1 (bounds_i64 w1).2).mono fun e W' ⟨he, bel⟩ => ?_
  subst he
  exact ⟨_, rfl, _, _, _, [], _, [], hW', trodAll_mk1 (shut_bool Try.underlying4 _), (trodAll_cons_mk (shut_int Try.underlying3 w0) (trodAll_cons_mk (shut_int Try.underlying3 w1) (trodAll_cons_mk (shut_int Try.underlying3 w2) trodAll_mk0))), rfl, bel.frame _, fun h => by cases h⟩

/-! ### the closed facts, one by one -/
theorem c1 : (Rows.fnWindowIsTheRowsAfterOffsetUpToCountRow.wf (OpenSpec.ofChange Rows.fnWindowIsTheRowsAfterOffsetUpToCountSpec)) = true := by kernel_rfl
theorem c2 : (laidOutB Try.pinned.checked.prog) = true := by kernel_rfl
theorem c3 : (mapsRowed Try.pinned.checked.prog) = true := by kernel_rfl
theorem c4 : (Try.f3.params.all (Try.pinned.checked.prog.readableRec ·)) = true := by kernel_rfl
theorem c5 : (namedTie Try.pinned.checked.prog Rows.fnWindowIsTheRowsAfterOffsetUpToCountRow.named Rows.fnWindowIsTheRowsAfterOffsetUpToCountSpec.vars) = true := by kernel_rfl
theorem c6 : ((Rows.fnWindowIsTheRowsAfterOffsetUpToCountRow.stops == [])) = true := by kernel_rfl
theorem c7 : ((Try.pinned.checked.prog.stops == [])) = true := by kernel_rfl
theorem c8 : ((Rows.fnWindowIsTheRowsAfterOffsetUpToCountRow.knobs == [])) = true := by kernel_rfl
theorem c9 : ((Try.pinned.checked.prog.stopKnobs == [])) = true := by kernel_rfl
theorem c10 : ((Rows.fnWindowIsTheRowsAfterOffsetUpToCountRow.inPlace == Try.pinned.checked.prog.inPlace 3)) = true := by kernel_rfl
theorem c11 : ((Rows.fnWindowIsTheRowsAfterOffsetUpToCountRow.unfollowed == Try.pinned.checked.prog.unfollowed 3)) = true := by kernel_rfl
theorem c12 : ((Rows.fnWindowIsTheRowsAfterOffsetUpToCountRow.recurses == Try.pinned.checked.prog.recurses 3)) = true := by kernel_rfl
theorem c13 : ((Rows.fnWindowIsTheRowsAfterOffsetUpToCountRow.named == Try.pinned.checked.prog.varsNamed 3)) = true := by kernel_rfl
theorem c14 : ((Rows.fnWindowIsTheRowsAfterOffsetUpToCountRow.maps == (Try.f3.params.toList ++ Rows.fnWindowIsTheRowsAfterOffsetUpToCountSpec.plain.varTypes Try.pinned.checked.prog).any (Try.pinned.checked.prog.mapsRec ·))) = true := by kernel_rfl
theorem c15 : ((Rows.fnWindowIsTheRowsAfterOffsetUpToCountRow.ifaces == (Try.f3.params.toList ++ Rows.fnWindowIsTheRowsAfterOffsetUpToCountSpec.plain.varTypes Try.pinned.checked.prog).any (Try.pinned.checked.prog.ifacesRec ·))) = true := by kernel_rfl
theorem c16 : ((Rows.fnWindowIsTheRowsAfterOffsetUpToCountRow.mapsOut == Try.pinned.checked.prog.mapsAmong Try.f3.resultTypes.toList)) = true := by kernel_rfl
theorem c17 : ((Rows.fnWindowIsTheRowsAfterOffsetUpToCountRow.loops == (Try.f3.params.toList ++ Rows.fnWindowIsTheRowsAfterOffsetUpToCountSpec.plain.varTypes Try.pinned.checked.prog).any (Try.pinned.checked.prog.loopsFrom ·))) = true := by kernel_rfl
theorem c18 : ((Rows.fnWindowIsTheRowsAfterOffsetUpToCountRow.wideKeys == (Try.f3.params.toList ++ Rows.fnWindowIsTheRowsAfterOffsetUpToCountSpec.plain.varTypes Try.pinned.checked.prog ++ Try.f3.resultTypes.toList).any (Try.pinned.checked.prog.wideKeysFrom ·))) = true := by kernel_rfl
theorem c19 : (Rows.fnWindowIsTheRowsAfterOffsetUpToCountSpec.vars.all (Try.pinned.checked.prog.varReadable ·)) = true := by kernel_rfl
theorem c20 : (Try.f3.resultTypes.all (fun t => Try.pinned.checked.prog.readableRec t && decide (t < Try.pinned.checked.prog.types.size))) = true := by kernel_rfl
theorem c21 : ((Rows.fnWindowIsTheRowsAfterOffsetUpToCountRow.ifacesOut == Try.f3.resultTypes.toList.any (Try.pinned.checked.prog.ifacesRec ·))) = true := by kernel_rfl
theorem c22 : ((Rows.fnWindowIsTheRowsAfterOffsetUpToCountRow.loopsOut == Try.f3.resultTypes.toList.any (Try.pinned.checked.prog.loopsFrom ·))) = true := by kernel_rfl
theorem c23 : ((Rows.fnWindowIsTheRowsAfterOffsetUpToCountRow.plainKeys == Try.pinned.checked.prog.plainKeys)) = true := by kernel_rfl
theorem c24 : (Rows.fnWindowIsTheRowsAfterOffsetUpToCountRow.shortTexts.isNone) = true := by kernel_rfl
theorem c25 : (Try.pinned.checked.prog.stopsHeard) = true := by kernel_rfl
theorem c26 : Try.pinned.checked.prog.mayEnter = true := may_enter
theorem c27 : (Rows.fnWindowIsTheRowsAfterOffsetUpToCountRow.lifted == Try.pinned.checked.prog.liftsFinal) = true := by
  have h : Try.pinned.checked.prog.liftsFinal = false := lifts_final
  rw [h]
  rfl
theorem c28 : (Try.pinned.checked.prog.make == some Rows.fnWindowIsTheRowsAfterOffsetUpToCountRow.make) = true := by
  have h : Try.pinned.checked.prog.make = some .cut := make_is
  rw [h]
  rfl
theorem c29 : ((Rows.fnWindowIsTheRowsAfterOffsetUpToCountRow.kinds == (if Rows.fnWindowIsTheRowsAfterOffsetUpToCountRow.domain.isEmpty then [] else Try.f3.params.toList.map fun t => match Try.pinned.checked.prog.underlying t with | some (.int k) => some k | _ => none))) = true := by kernel_rfl
theorem c30 : ((Rows.fnWindowIsTheRowsAfterOffsetUpToCountRow.pinned == Rows.fnWindowIsTheRowsAfterOffsetUpToCountRow.pinnedBy)) = true := by kernel_rfl
theorem c31 : ((Rows.fnWindowIsTheRowsAfterOffsetUpToCountRow.veiled == (Try.f3.params.toList ++ Rows.fnWindowIsTheRowsAfterOffsetUpToCountSpec.plain.varTypes Try.pinned.checked.prog ++ Try.f3.resultTypes.toList).any (Try.pinned.checked.prog.veiledRec ·))) = true := by kernel_rfl
theorem c32 : (Rows.fnWindowIsTheRowsAfterOffsetUpToCountRow.veiledFits Try.pinned.checked.prog Try.f3.params.toList (Try.f3.params.toList ++ Rows.fnWindowIsTheRowsAfterOffsetUpToCountSpec.plain.varTypes Try.pinned.checked.prog ++ Try.f3.resultTypes.toList)) = true := by kernel_rfl
set_option maxRecDepth 100000 in
theorem closed : joinedFacts Try.pinned.checked.prog 3 Try.f3 Rows.fnWindowIsTheRowsAfterOffsetUpToCountSpec Rows.fnWindowIsTheRowsAfterOffsetUpToCountRow = true := by
  unfold joinedFacts
  exact (and_of (and_of (and_of (and_of (and_of (and_of (and_of (and_of (and_of (and_of (and_of (and_of (and_of (and_of (and_of (and_of (and_of (and_of (and_of (and_of (and_of (and_of (and_of (and_of (and_of (and_of (and_of (and_of (and_of (and_of (and_of c1 c2) c3) c4) c5) c6) c7) c8) c9) c10) c11) c12) c13) c14) c15) c16) c17) c18) c19) c20) c21) c22) c23) c24) c25) c26) c27) c28) c29) c30) c31) c32)

theorem over : Rows.fnWindowIsTheRowsAfterOffsetUpToCountRow.holds Try.pinned (OpenSpec.ofChange Rows.fnWindowIsTheRowsAfterOffsetUpToCountSpec) :=
  OpenClaim.holds_of_wide 3 Try.f3 rfl rfl rfl rfl rfl rfl rfl ⟨rfl, rfl, rfl, rfl, rfl⟩ rfl rfl rfl rfl rfl (by kernel_rfl) Try.func3 closed
    (of_decide_eq_true (by kernel_rfl)) (by unfold Func.isWrapper; first | (rw [if_pos (by decide +kernel)]; kernel_rfl) | (rw [if_neg (by decide +kernel)]; exact ⟨rfl, rfl⟩))
    (fun os started H enc _ => lifted os started H enc)

end Go.Proofs.Qxb6001672a.fnWindowIsTheRowsAfterOffsetUpToCount

namespace Go.Proofs.Qxb6001672a
/-- THE STATEMENT -/
theorem fnWindowIsTheRowsAfterOffsetUpToCount_holds : Rows.FnWindowIsTheRowsAfterOffsetUpToCountSaid := fnWindowIsTheRowsAfterOffsetUpToCount.over
#print axioms fnWindowIsTheRowsAfterOffsetUpToCount_holds
end Go.Proofs.Qxb6001672a
