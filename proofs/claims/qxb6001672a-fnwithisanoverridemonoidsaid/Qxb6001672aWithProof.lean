/-
  The statement 'Rows.FnWithIsAnOverrideMonoidSaid', out of the walk.
-/
import Derived.Test.Qxb6001672aWith
import Derived.Test.Qxb6001672aHead
import Derived.ProofKit
import Derived.OpenShut
import Derived.ShutString
import Derived.ChangeOld
import Derived.Below
namespace Go.Proofs.Qxb6001672a.fnWithIsAnOverrideMonoid
open Go.ChangeShapes Go.WideShapes Go.ChangeAt Go.RowKit
open Go.ChangeMaps (open_string shut_string)
set_option linter.unusedVariables false

theorem own : ownKnob Try.prog.godebug = none := by kernel_rfl
theorem laidOut : laidOutB Try.prog = true := by kernel_rfl

set_option maxRecDepth 100000 in
theorem lifted (os : Os) (started : os.Started) (H : Type) (enc : TypeId × Value → H) :
    ReturnsInHanded {} Try.checked os 4 .any (Rows.fnWithIsAnOverrideMonoidSpec.pre6 enc Try.prog Try.f4 Rows.fnWithIsAnOverrideMonoidRow.domain false) (Rows.fnWithIsAnOverrideMonoidSpec.post enc Try.prog Try.f4 false true false false) := by
  refine returnsInHanded_of_change (C := Try.checked) own started (by kernel_rfl) Try.func4
    (ChangeSpec.witness6 (enc := enc) (C := Try.checked) false ⟨#[], #[.int .i64 0, .int .i64 0, .int .i64 0, .int .i64 0, .int .i64 0, .int .i64 0], []⟩ 8 (by kernel_rfl) (by kernel_rfl) (by kernel_rfl) (by kernel_rfl)) ?_
  intro W base args ds gs before hval0 hW hcnd _
  have hval : ∀ (j : Nat) t v, Try.f4.params[j]? = some t → args[j]? = some v → Value.okWide Try.prog W .any base t v := hval0
  have hW' := hW
  obtain ⟨p, q, hA0, hV, rfl, hfz, hnd⟩ := hW
  have hA : DataW.TrodAll enc Try.prog W 0 (fun _ => true) true Try.f4.params.toList args.toList ds p := hA0
  rw [Try.params4] at hA hval
  obtain ⟨v0, vs0, d0, ds0, p0, q0, hargs, rfl, rfl, h0, r0⟩ := trodAll_cons hA
  obtain ⟨v1, vs1, d1, ds1, p1, q1, rfl, rfl, rfl, h1, r1⟩ := trodAll_cons r0
  obtain ⟨v2, vs2, d2, ds2, p2, q2, rfl, rfl, rfl, h2, r2⟩ := trodAll_cons r1
  obtain ⟨v3, vs3, d3, ds3, p3, q3, rfl, rfl, rfl, h3, r3⟩ := trodAll_cons r2
  obtain ⟨v4, vs4, d4, ds4, p4, q4, rfl, rfl, rfl, h4, r4⟩ := trodAll_cons r3
  obtain ⟨v5, vs5, d5, ds5, p5, q5, rfl, rfl, rfl, h5, r5⟩ := trodAll_cons r4
  obtain ⟨rfl, rfl, rfl⟩ := trodAll_nil r5
  obtain rfl : args = #[v0, v1, v2, v3, v4, v5] := by cases args; simp_all
  obtain ⟨rfl, rfl⟩ := trodVars_none hV
  obtain ⟨a0, rfl, rfl, rfl, w0⟩ := open_int Try.underlying3 (hval 0 3 v0 rfl rfl) h0
  obtain ⟨a1, rfl, rfl, rfl, w1⟩ := open_int Try.underlying3 (hval 1 3 v1 rfl rfl) h1
  obtain ⟨a2, rfl, rfl, rfl, w2⟩ := open_int Try.underlying3 (hval 2 3 v2 rfl rfl) h2
  obtain ⟨a3, rfl, rfl, rfl, w3⟩ := open_int Try.underlying3 (hval 3 3 v3 rfl rfl) h3
  obtain ⟨a4, rfl, rfl, rfl, w4⟩ := open_int Try.underlying3 (hval 4 3 v4 rfl rfl) h4
  obtain ⟨a5, rfl, rfl, rfl, w5⟩ := open_int Try.underlying3 (hval 5 3 v5 rfl rfl) h5
  clear hA0 hval0
  refine (with_walk a0 a1 a2 a3 a4 a5 W).mono fun e W' ⟨he, bel⟩ => ?_
  subst he
  exact ⟨_, rfl, _, _, _, [], _, [], hW', trodAll_mk1 (shut_bool Try.underlying4 _), (trodAll_cons_mk (shut_int Try.underlying3 w0) (trodAll_cons_mk (shut_int Try.underlying3 w1) (trodAll_cons_mk (shut_int Try.underlying3 w2) (trodAll_cons_mk (shut_int Try.underlying3 w3) (trodAll_cons_mk (shut_int Try.underlying3 w4) (trodAll_cons_mk (shut_int Try.underlying3 w5) trodAll_mk0)))))), rfl, bel.frame _, fun h => by cases h⟩

/-! ### the closed facts, one by one -/
theorem c1 : (Rows.fnWithIsAnOverrideMonoidRow.wf (OpenSpec.ofChange Rows.fnWithIsAnOverrideMonoidSpec)) = true := by kernel_rfl
theorem c2 : (laidOutB Try.pinned.checked.prog) = true := by kernel_rfl
theorem c3 : (mapsRowed Try.pinned.checked.prog) = true := by kernel_rfl
theorem c4 : (Try.f4.params.all (Try.pinned.checked.prog.readableRec ·)) = true := by kernel_rfl
theorem c5 : (namedTie Try.pinned.checked.prog Rows.fnWithIsAnOverrideMonoidRow.named Rows.fnWithIsAnOverrideMonoidSpec.vars) = true := by kernel_rfl
theorem c6 : ((Rows.fnWithIsAnOverrideMonoidRow.stops == [])) = true := by kernel_rfl
theorem c7 : ((Try.pinned.checked.prog.stops == [])) = true := by kernel_rfl
theorem c8 : ((Rows.fnWithIsAnOverrideMonoidRow.knobs == [])) = true := by kernel_rfl
theorem c9 : ((Try.pinned.checked.prog.stopKnobs == [])) = true := by kernel_rfl
theorem c10 : ((Rows.fnWithIsAnOverrideMonoidRow.inPlace == Try.pinned.checked.prog.inPlace 4)) = true := by kernel_rfl
theorem c11 : ((Rows.fnWithIsAnOverrideMonoidRow.unfollowed == Try.pinned.checked.prog.unfollowed 4)) = true := by kernel_rfl
theorem c12 : ((Rows.fnWithIsAnOverrideMonoidRow.recurses == Try.pinned.checked.prog.recurses 4)) = true := by kernel_rfl
theorem c13 : ((Rows.fnWithIsAnOverrideMonoidRow.named == Try.pinned.checked.prog.varsNamed 4)) = true := by kernel_rfl
theorem c14 : ((Rows.fnWithIsAnOverrideMonoidRow.maps == (Try.f4.params.toList ++ Rows.fnWithIsAnOverrideMonoidSpec.plain.varTypes Try.pinned.checked.prog).any (Try.pinned.checked.prog.mapsRec ·))) = true := by kernel_rfl
theorem c15 : ((Rows.fnWithIsAnOverrideMonoidRow.ifaces == (Try.f4.params.toList ++ Rows.fnWithIsAnOverrideMonoidSpec.plain.varTypes Try.pinned.checked.prog).any (Try.pinned.checked.prog.ifacesRec ·))) = true := by kernel_rfl
theorem c16 : ((Rows.fnWithIsAnOverrideMonoidRow.mapsOut == Try.pinned.checked.prog.mapsAmong Try.f4.resultTypes.toList)) = true := by kernel_rfl
theorem c17 : ((Rows.fnWithIsAnOverrideMonoidRow.loops == (Try.f4.params.toList ++ Rows.fnWithIsAnOverrideMonoidSpec.plain.varTypes Try.pinned.checked.prog).any (Try.pinned.checked.prog.loopsFrom ·))) = true := by kernel_rfl
theorem c18 : ((Rows.fnWithIsAnOverrideMonoidRow.wideKeys == (Try.f4.params.toList ++ Rows.fnWithIsAnOverrideMonoidSpec.plain.varTypes Try.pinned.checked.prog ++ Try.f4.resultTypes.toList).any (Try.pinned.checked.prog.wideKeysFrom ·))) = true := by kernel_rfl
theorem c19 : (Rows.fnWithIsAnOverrideMonoidSpec.vars.all (Try.pinned.checked.prog.varReadable ·)) = true := by kernel_rfl
theorem c20 : (Try.f4.resultTypes.all (fun t => Try.pinned.checked.prog.readableRec t && decide (t < Try.pinned.checked.prog.types.size))) = true := by kernel_rfl
theorem c21 : ((Rows.fnWithIsAnOverrideMonoidRow.ifacesOut == Try.f4.resultTypes.toList.any (Try.pinned.checked.prog.ifacesRec ·))) = true := by kernel_rfl
theorem c22 : ((Rows.fnWithIsAnOverrideMonoidRow.loopsOut == Try.f4.resultTypes.toList.any (Try.pinned.checked.prog.loopsFrom ·))) = true := by kernel_rfl
theorem c23 : ((Rows.fnWithIsAnOverrideMonoidRow.plainKeys == Try.pinned.checked.prog.plainKeys)) = true := by kernel_rfl
theorem c24 : (Rows.fnWithIsAnOverrideMonoidRow.shortTexts.isNone) = true := by kernel_rfl
theorem c25 : (Try.pinned.checked.prog.stopsHeard) = true := by kernel_rfl
theorem c26 : Try.pinned.checked.prog.mayEnter = true := may_enter
theorem c27 : (Rows.fnWithIsAnOverrideMonoidRow.lifted == Try.pinned.checked.prog.liftsFinal) = true := by
  have h : Try.pinned.checked.prog.liftsFinal = false := lifts_final
  rw [h]
  rfl
theorem c28 : (Try.pinned.checked.prog.make == some Rows.fnWithIsAnOverrideMonoidRow.make) = true := by
  have h : Try.pinned.checked.prog.make = some .cut := make_is
  rw [h]
  rfl
theorem c29 : ((Rows.fnWithIsAnOverrideMonoidRow.kinds == (if Rows.fnWithIsAnOverrideMonoidRow.domain.isEmpty then [] else Try.f4.params.toList.map fun t => match Try.pinned.checked.prog.underlying t with | some (.int k) => some k | _ => none))) = true := by kernel_rfl
theorem c30 : ((Rows.fnWithIsAnOverrideMonoidRow.pinned == Rows.fnWithIsAnOverrideMonoidRow.pinnedBy)) = true := by kernel_rfl
theorem c31 : ((Rows.fnWithIsAnOverrideMonoidRow.veiled == (Try.f4.params.toList ++ Rows.fnWithIsAnOverrideMonoidSpec.plain.varTypes Try.pinned.checked.prog ++ Try.f4.resultTypes.toList).any (Try.pinned.checked.prog.veiledRec ·))) = true := by kernel_rfl
theorem c32 : (Rows.fnWithIsAnOverrideMonoidRow.veiledFits Try.pinned.checked.prog Try.f4.params.toList (Try.f4.params.toList ++ Rows.fnWithIsAnOverrideMonoidSpec.plain.varTypes Try.pinned.checked.prog ++ Try.f4.resultTypes.toList)) = true := by kernel_rfl
set_option maxRecDepth 100000 in
theorem closed : joinedFacts Try.pinned.checked.prog 4 Try.f4 Rows.fnWithIsAnOverrideMonoidSpec Rows.fnWithIsAnOverrideMonoidRow = true := by
  unfold joinedFacts
  exact (and_of (and_of (and_of (and_of (and_of (and_of (and_of (and_of (and_of (and_of (and_of (and_of (and_of (and_of (and_of (and_of (and_of (and_of (and_of (and_of (and_of (and_of (and_of (and_of (and_of (and_of (and_of (and_of (and_of (and_of (and_of c1 c2) c3) c4) c5) c6) c7) c8) c9) c10) c11) c12) c13) c14) c15) c16) c17) c18) c19) c20) c21) c22) c23) c24) c25) c26) c27) c28) c29) c30) c31) c32)

theorem over : Rows.fnWithIsAnOverrideMonoidRow.holds Try.pinned (OpenSpec.ofChange Rows.fnWithIsAnOverrideMonoidSpec) :=
  OpenClaim.holds_of_wide 4 Try.f4 rfl rfl rfl rfl rfl rfl rfl ⟨rfl, rfl, rfl, rfl, rfl⟩ rfl rfl rfl rfl rfl (by kernel_rfl) Try.func4 closed
    (of_decide_eq_true (by kernel_rfl)) (by unfold Func.isWrapper; first | (rw [if_pos (by decide +kernel)]; kernel_rfl) | (rw [if_neg (by decide +kernel)]; exact ⟨rfl, rfl⟩))
    (fun os started H enc _ => lifted os started H enc)

end Go.Proofs.Qxb6001672a.fnWithIsAnOverrideMonoid

namespace Go.Proofs.Qxb6001672a
/-- THE STATEMENT -/
theorem fnWithIsAnOverrideMonoid_holds : Rows.FnWithIsAnOverrideMonoidSaid := fnWithIsAnOverrideMonoid.over
#print axioms fnWithIsAnOverrideMonoid_holds
end Go.Proofs.Qxb6001672a
