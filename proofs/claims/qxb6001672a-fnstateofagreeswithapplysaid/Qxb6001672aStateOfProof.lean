/-
  The statement 'Rows.FnStateOfAgreesWithApplySaid', out of the walk.
-/
import Derived.Test.Qxb6001672aLawStateOf
import Derived.Test.Qxb6001672aHead
import Derived.ProofKit
import Derived.OpenShut
import Derived.ShutString
import Derived.ChangeOld
import Derived.Below
namespace Go.Proofs.Qxb6001672a.fnStateOfAgreesWithApply
open Go.ChangeShapes Go.WideShapes Go.ChangeAt Go.RowKit
open Go.ChangeMaps (open_string shut_string)
set_option linter.unusedVariables false

theorem own : ownKnob Try.prog.godebug = none := by kernel_rfl
theorem laidOut : laidOutB Try.prog = true := by kernel_rfl

set_option maxRecDepth 100000 in
theorem lifted (os : Os) (started : os.Started) (H : Type) (enc : TypeId × Value → H) :
    ReturnsInHanded {} Try.checked os 11 .any (Rows.fnStateOfAgreesWithApplySpec.pre6 enc Try.prog Try.f11 Rows.fnStateOfAgreesWithApplyRow.domain false) (Rows.fnStateOfAgreesWithApplySpec.post enc Try.prog Try.f11 false true false false) := by
  refine returnsInHanded_of_change (C := Try.checked) own started (by kernel_rfl) Try.func11
    (ChangeSpec.witness6 (enc := enc) (C := Try.checked) false ⟨#[], #[.slice none 0 0, .bool false, .slice none 0 0, .bool false], []⟩ 8 (by kernel_rfl) (by kernel_rfl) (by kernel_rfl) (by kernel_rfl)) ?_
  intro W base args ds gs before hval0 hW hcnd _
  have hval : ∀ (j : Nat) t v, Try.f11.params[j]? = some t → args[j]? = some v → Value.okWide Try.prog W .any base t v := hval0
  have hW' := hW
  obtain ⟨p, q, hA0, hV, rfl, hfz, hnd⟩ := hW
  have hA : DataW.TrodAll enc Try.prog W 0 (fun _ => true) true Try.f11.params.toList args.toList ds p := hA0
  rw [Try.params11] at hA hval
  obtain ⟨v0, vs0, d0, ds0, p0, q0, hargs, rfl, rfl, h0, r0⟩ := trodAll_cons hA
  obtain ⟨v1, vs1, d1, ds1, p1, q1, rfl, rfl, rfl, h1, r1⟩ := trodAll_cons r0
  obtain ⟨v2, vs2, d2, ds2, p2, q2, rfl, rfl, rfl, h2, r2⟩ := trodAll_cons r1
  obtain ⟨v3, vs3, d3, ds3, p3, q3, rfl, rfl, rfl, h3, r3⟩ := trodAll_cons r2
  obtain ⟨rfl, rfl, rfl⟩ := trodAll_nil r3
  obtain rfl : args = #[v0, v1, v2, v3] := by cases args; simp_all
  obtain ⟨rfl, rfl⟩ := trodVars_none hV
  obtain ⟨a0, len0, cap0, rfl⟩ := okWide_slice Try.underlying28 (hval 0 28 v0 rfl rfl)
  have k0 := h0
  have lt0 : ∀ x ∈ p0, x.block < W.heap.size := by obtain ⟨m, hm⟩ := k0; exact DataW.trod_lt m _ _ _ hm
  obtain ⟨z0, w0⟩ : ∃ zs, IsRow .u8 W a0 len0 cap0 zs := by
    obtain ⟨fuel, hf⟩ := h0
    rcases open_ints Try.underlying28 Try.underlying5 (by kernel_rfl) hf with ⟨hcs, _⟩ | ⟨x, l, c, zs, hcs, _, hl, hm, hz, _, hcell, hwz⟩
    · simp [Value.cells] at hcs
      obtain ⟨rfl, rfl, rfl⟩ := hcs
      exact ⟨[], .inl ⟨rfl, rfl, rfl, rfl⟩⟩
    · simp [Value.cells] at hcs
      obtain ⟨rfl, rfl, rfl⟩ := hcs
      exact ⟨zs, .inr ⟨_, rfl, hl, hm, by simpa using hz, hcell, hwz⟩⟩
  obtain ⟨a1, rfl, rfl, rfl⟩ := open_bool Try.underlying4 (hval 1 4 v1 rfl rfl) h1
  obtain ⟨a2, len2, cap2, rfl⟩ := okWide_slice Try.underlying28 (hval 2 28 v2 rfl rfl)
  have k2 := h2
  have lt2 : ∀ x ∈ p2, x.block < W.heap.size := by obtain ⟨m, hm⟩ := k2; exact DataW.trod_lt m _ _ _ hm
  obtain ⟨z2, w2⟩ : ∃ zs, IsRow .u8 W a2 len2 cap2 zs := by
    obtain ⟨fuel, hf⟩ := h2
    rcases open_ints Try.underlying28 Try.underlying5 (by kernel_rfl) hf with ⟨hcs, _⟩ | ⟨x, l, c, zs, hcs, _, hl, hm, hz, _, hcell, hwz⟩
    · simp [Value.cells] at hcs
      obtain ⟨rfl, rfl, rfl⟩ := hcs
      exact ⟨[], .inl ⟨rfl, rfl, rfl, rfl⟩⟩
    · simp [Value.cells] at hcs
      obtain ⟨rfl, rfl, rfl⟩ := hcs
      exact ⟨zs, .inr ⟨_, rfl, hl, hm, by simpa using hz, hcell, hwz⟩⟩
  obtain ⟨a3, rfl, rfl, rfl⟩ := open_bool Try.underlying4 (hval 3 4 v3 rfl rfl) h3
  have hmx : maxLen ≤ 9223372036854775807 := by decide
  obtain ⟨y0a, y0b, y0c, y0d⟩ : (z0.take len0).length = len0 ∧ (a0 = none → len0 = 0) ∧ len0 ≤ maxLen ∧ (∀ x ∈ z0.take len0, 0 ≤ x ∧ x < 256) := by
    rcases w0 with ⟨e1, e2, e3, e4⟩ | ⟨x, e1, l1, l2, l3, _, l5⟩
    · subst e2
      exact ⟨by simp, fun _ => rfl, Nat.zero_le _, fun x hx => by simp at hx⟩
    · refine ⟨by simp; omega, fun h => ?_, by omega, fun x hx => ?_⟩
      · rw [e1] at h
        cases h
      · have h := l5 x (List.mem_of_mem_take hx)
        simp [Lit.wf, IntKind.min, IntKind.max, IntKind.bits, IntKind.signed] at h
        omega
  obtain ⟨y2a, y2b, y2c, y2d⟩ : (z2.take len2).length = len2 ∧ (a2 = none → len2 = 0) ∧ len2 ≤ maxLen ∧ (∀ x ∈ z2.take len2, 0 ≤ x ∧ x < 256) := by
    rcases w2 with ⟨e1, e2, e3, e4⟩ | ⟨x, e1, l1, l2, l3, _, l5⟩
    · subst e2
      exact ⟨by simp, fun _ => rfl, Nat.zero_le _, fun x hx => by simp at hx⟩
    · refine ⟨by simp; omega, fun h => ?_, by omega, fun x hx => ?_⟩
      · rw [e1] at h
        cases h
      · have h := l5 x (List.mem_of_mem_take hx)
        simp [Lit.wf, IntKind.min, IntKind.max, IntKind.bits, IntKind.signed] at h
        omega
  clear hA0 hval0
  refine (stateOf_walk a0 a2 len0 cap0 len2 cap2 (z0.take len0) (z2.take len2) a1 a3 W (SliceAt.of_isRow w0) (SliceAt.of_isRow w2) y0a y2a y0b y2b (by omega) (by omega) y0d y2d).mono fun e W' ⟨he, bel⟩ => ?_
  subst he
  exact ⟨_, rfl, _, _, _, [], _, [], hW', trodAll_mk1 (shut_bool Try.underlying4 _), (trodAll_cons_mk (Below.trod laidOut (by kernel_rfl) (of_decide_eq_true (by kernel_rfl)) k0 bel lt0) (trodAll_cons_mk (shut_bool Try.underlying4 _) (trodAll_cons_mk (Below.trod laidOut (by kernel_rfl) (of_decide_eq_true (by kernel_rfl)) k2 bel lt2) (trodAll_cons_mk (shut_bool Try.underlying4 _) trodAll_mk0)))), rfl, bel.frame _, fun h => by cases h⟩

/-! ### the closed facts, one by one -/
theorem c1 : (Rows.fnStateOfAgreesWithApplyRow.wf (OpenSpec.ofChange Rows.fnStateOfAgreesWithApplySpec)) = true := by kernel_rfl
theorem c2 : (laidOutB Try.pinned.checked.prog) = true := by kernel_rfl
theorem c3 : (mapsRowed Try.pinned.checked.prog) = true := by kernel_rfl
theorem c4 : (Try.f11.params.all (Try.pinned.checked.prog.readableRec ·)) = true := by kernel_rfl
theorem c5 : (namedTie Try.pinned.checked.prog Rows.fnStateOfAgreesWithApplyRow.named Rows.fnStateOfAgreesWithApplySpec.vars) = true := by kernel_rfl
theorem c6 : ((Rows.fnStateOfAgreesWithApplyRow.stops == [])) = true := by kernel_rfl
theorem c7 : ((Try.pinned.checked.prog.stops == [])) = true := by kernel_rfl
theorem c8 : ((Rows.fnStateOfAgreesWithApplyRow.knobs == [])) = true := by kernel_rfl
theorem c9 : ((Try.pinned.checked.prog.stopKnobs == [])) = true := by kernel_rfl
theorem c10 : ((Rows.fnStateOfAgreesWithApplyRow.inPlace == Try.pinned.checked.prog.inPlace 11)) = true := by kernel_rfl
theorem c11 : ((Rows.fnStateOfAgreesWithApplyRow.unfollowed == Try.pinned.checked.prog.unfollowed 11)) = true := by kernel_rfl
theorem c12 : ((Rows.fnStateOfAgreesWithApplyRow.recurses == Try.pinned.checked.prog.recurses 11)) = true := by kernel_rfl
theorem c13 : ((Rows.fnStateOfAgreesWithApplyRow.named == Try.pinned.checked.prog.varsNamed 11)) = true := by kernel_rfl
theorem c14 : ((Rows.fnStateOfAgreesWithApplyRow.maps == (Try.f11.params.toList ++ Rows.fnStateOfAgreesWithApplySpec.plain.varTypes Try.pinned.checked.prog).any (Try.pinned.checked.prog.mapsRec ·))) = true := by kernel_rfl
theorem c15 : ((Rows.fnStateOfAgreesWithApplyRow.ifaces == (Try.f11.params.toList ++ Rows.fnStateOfAgreesWithApplySpec.plain.varTypes Try.pinned.checked.prog).any (Try.pinned.checked.prog.ifacesRec ·))) = true := by kernel_rfl
theorem c16 : ((Rows.fnStateOfAgreesWithApplyRow.mapsOut == Try.pinned.checked.prog.mapsAmong Try.f11.resultTypes.toList)) = true := by kernel_rfl
theorem c17 : ((Rows.fnStateOfAgreesWithApplyRow.loops == (Try.f11.params.toList ++ Rows.fnStateOfAgreesWithApplySpec.plain.varTypes Try.pinned.checked.prog).any (Try.pinned.checked.prog.loopsFrom ·))) = true := by kernel_rfl
theorem c18 : ((Rows.fnStateOfAgreesWithApplyRow.wideKeys == (Try.f11.params.toList ++ Rows.fnStateOfAgreesWithApplySpec.plain.varTypes Try.pinned.checked.prog ++ Try.f11.resultTypes.toList).any (Try.pinned.checked.prog.wideKeysFrom ·))) = true := by kernel_rfl
theorem c19 : (Rows.fnStateOfAgreesWithApplySpec.vars.all (Try.pinned.checked.prog.varReadable ·)) = true := by kernel_rfl
theorem c20 : (Try.f11.resultTypes.all (fun t => Try.pinned.checked.prog.readableRec t && decide (t < Try.pinned.checked.prog.types.size))) = true := by kernel_rfl
theorem c21 : ((Rows.fnStateOfAgreesWithApplyRow.ifacesOut == Try.f11.resultTypes.toList.any (Try.pinned.checked.prog.ifacesRec ·))) = true := by kernel_rfl
theorem c22 : ((Rows.fnStateOfAgreesWithApplyRow.loopsOut == Try.f11.resultTypes.toList.any (Try.pinned.checked.prog.loopsFrom ·))) = true := by kernel_rfl
theorem c23 : ((Rows.fnStateOfAgreesWithApplyRow.plainKeys == Try.pinned.checked.prog.plainKeys)) = true := by kernel_rfl
theorem c24 : (Rows.fnStateOfAgreesWithApplyRow.shortTexts.isNone) = true := by kernel_rfl
theorem c25 : (Try.pinned.checked.prog.stopsHeard) = true := by kernel_rfl
theorem c26 : Try.pinned.checked.prog.mayEnter = true := may_enter
theorem c27 : (Rows.fnStateOfAgreesWithApplyRow.lifted == Try.pinned.checked.prog.liftsFinal) = true := by
  have h : Try.pinned.checked.prog.liftsFinal = false := lifts_final
  rw [h]
  rfl
theorem c28 : (Try.pinned.checked.prog.make == some Rows.fnStateOfAgreesWithApplyRow.make) = true := by
  have h : Try.pinned.checked.prog.make = some .cut := make_is
  rw [h]
  rfl
theorem c29 : ((Rows.fnStateOfAgreesWithApplyRow.kinds == (if Rows.fnStateOfAgreesWithApplyRow.domain.isEmpty then [] else Try.f11.params.toList.map fun t => match Try.pinned.checked.prog.underlying t with | some (.int k) => some k | _ => none))) = true := by kernel_rfl
theorem c30 : ((Rows.fnStateOfAgreesWithApplyRow.pinned == Rows.fnStateOfAgreesWithApplyRow.pinnedBy)) = true := by kernel_rfl
theorem c31 : ((Rows.fnStateOfAgreesWithApplyRow.veiled == (Try.f11.params.toList ++ Rows.fnStateOfAgreesWithApplySpec.plain.varTypes Try.pinned.checked.prog ++ Try.f11.resultTypes.toList).any (Try.pinned.checked.prog.veiledRec ·))) = true := by kernel_rfl
theorem c32 : (Rows.fnStateOfAgreesWithApplyRow.veiledFits Try.pinned.checked.prog Try.f11.params.toList (Try.f11.params.toList ++ Rows.fnStateOfAgreesWithApplySpec.plain.varTypes Try.pinned.checked.prog ++ Try.f11.resultTypes.toList)) = true := by kernel_rfl
set_option maxRecDepth 100000 in
theorem closed : joinedFacts Try.pinned.checked.prog 11 Try.f11 Rows.fnStateOfAgreesWithApplySpec Rows.fnStateOfAgreesWithApplyRow = true := by
  unfold joinedFacts
  exact (and_of (and_of (and_of (and_of (and_of (and_of (and_of (and_of (and_of (and_of (and_of (and_of (and_of (and_of (and_of (and_of (and_of (and_of (and_of (and_of (and_of (and_of (and_of (and_of (and_of (and_of (and_of (and_of (and_of (and_of (and_of c1 c2) c3) c4) c5) c6) c7) c8) c9) c10) c11) c12) c13) c14) c15) c16) c17) c18) c19) c20) c21) c22) c23) c24) c25) c26) c27) c28) c29) c30) c31) c32)

theorem over : Rows.fnStateOfAgreesWithApplyRow.holds Try.pinned (OpenSpec.ofChange Rows.fnStateOfAgreesWithApplySpec) :=
  OpenClaim.holds_of_wide 11 Try.f11 rfl rfl rfl rfl rfl rfl rfl ⟨rfl, rfl, rfl, rfl, rfl⟩ rfl rfl rfl rfl rfl (by kernel_rfl) Try.func11 closed
    (of_decide_eq_true (by kernel_rfl)) (by unfold Func.isWrapper; first | (rw [if_pos (by decide +kernel)]; kernel_rfl) | (rw [if_neg (by decide +kernel)]; exact ⟨rfl, rfl⟩))
    (fun os started H enc _ => lifted os started H enc)

end Go.Proofs.Qxb6001672a.fnStateOfAgreesWithApply

namespace Go.Proofs.Qxb6001672a
/-- THE STATEMENT -/
theorem fnStateOfAgreesWithApply_holds : Rows.FnStateOfAgreesWithApplySaid := fnStateOfAgreesWithApply.over
#print axioms fnStateOfAgreesWithApply_holds
end Go.Proofs.Qxb6001672a
