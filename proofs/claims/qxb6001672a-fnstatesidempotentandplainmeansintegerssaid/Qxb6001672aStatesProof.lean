/-
  The statement 'Rows.FnStatesIdempotentAndPlainMeansIntegersSaid', out of the walk.
-/
import Derived.Test.Qxb6001672aLawStates
import Derived.Test.Qxb6001672aHead
import Derived.ProofKit
import Derived.OpenShut
import Derived.ShutString
import Derived.ChangeOld
import Derived.Below
namespace Go.Proofs.Qxb6001672a.fnStatesIdempotentAndPlainMeansIntegers
open Go.ChangeShapes Go.WideShapes Go.ChangeAt Go.RowKit
open Go.ChangeMaps (open_string shut_string)
set_option linter.unusedVariables false

theorem own : ownKnob Try.prog.godebug = none := by kernel_rfl
theorem laidOut : laidOutB Try.prog = true := by kernel_rfl

set_option maxRecDepth 100000 in
theorem lifted (os : Os) (started : os.Started) (H : Type) (enc : TypeId × Value → H) :
    ReturnsInHanded {} Try.checked os 5 .any (Rows.fnStatesIdempotentAndPlainMeansIntegersSpec.pre6 enc Try.prog Try.f5 Rows.fnStatesIdempotentAndPlainMeansIntegersRow.domain false) (Rows.fnStatesIdempotentAndPlainMeansIntegersSpec.post enc Try.prog Try.f5 false true false false) := by
  refine returnsInHanded_of_change (C := Try.checked) own started (by kernel_rfl) Try.func5
    (ChangeSpec.witness6 (enc := enc) (C := Try.checked) false ⟨#[], #[.slice none 0 0, .slice none 0 0, .bool false], []⟩ 8 (by kernel_rfl) (by kernel_rfl) (by kernel_rfl) (by kernel_rfl)) ?_
  intro W base args ds gs before hval0 hW hcnd _
  have hval : ∀ (j : Nat) t v, Try.f5.params[j]? = some t → args[j]? = some v → Value.okWide Try.prog W .any base t v := hval0
  have hW' := hW
  obtain ⟨p, q, hA0, hV, rfl, hfz, hnd⟩ := hW
  have hA : DataW.TrodAll enc Try.prog W 0 (fun _ => true) true Try.f5.params.toList args.toList ds p := hA0
  rw [Try.params5] at hA hval
  obtain ⟨v0, vs0, d0, ds0, p0, q0, hargs, rfl, rfl, h0, r0⟩ := trodAll_cons hA
  obtain ⟨v1, vs1, d1, ds1, p1, q1, rfl, rfl, rfl, h1, r1⟩ := trodAll_cons r0
  obtain ⟨v2, vs2, d2, ds2, p2, q2, rfl, rfl, rfl, h2, r2⟩ := trodAll_cons r1
  obtain ⟨rfl, rfl, rfl⟩ := trodAll_nil r2
  obtain rfl : args = #[v0, v1, v2] := by cases args; simp_all
  obtain ⟨rfl, rfl⟩ := trodVars_none hV
  obtain ⟨a0, len0, cap0, rfl⟩ := okWide_slice Try.underlying27 (hval 0 27 v0 rfl rfl)
  have k0 := h0
  have lt0 : ∀ x ∈ p0, x.block < W.heap.size := by obtain ⟨m, hm⟩ := k0; exact DataW.trod_lt m _ _ _ hm
  obtain ⟨z0, w0⟩ : ∃ zs, IsRow .i64 W a0 len0 cap0 zs := by
    obtain ⟨fuel, hf⟩ := h0
    rcases open_ints Try.underlying27 Try.underlying2 (by kernel_rfl) hf with ⟨hcs, _⟩ | ⟨x, l, c, zs, hcs, _, hl, hm, hz, _, hcell, hwz⟩
    · simp [Value.cells] at hcs
      obtain ⟨rfl, rfl, rfl⟩ := hcs
      exact ⟨[], .inl ⟨rfl, rfl, rfl, rfl⟩⟩
    · simp [Value.cells] at hcs
      obtain ⟨rfl, rfl, rfl⟩ := hcs
      exact ⟨zs, .inr ⟨_, rfl, hl, hm, by simpa using hz, hcell, hwz⟩⟩
  obtain ⟨a1, len1, cap1, rfl⟩ := okWide_slice Try.underlying28 (hval 1 28 v1 rfl rfl)
  have k1 := h1
  have lt1 : ∀ x ∈ p1, x.block < W.heap.size := by obtain ⟨m, hm⟩ := k1; exact DataW.trod_lt m _ _ _ hm
  obtain ⟨z1, w1⟩ : ∃ zs, IsRow .u8 W a1 len1 cap1 zs := by
    obtain ⟨fuel, hf⟩ := h1
    rcases open_ints Try.underlying28 Try.underlying5 (by kernel_rfl) hf with ⟨hcs, _⟩ | ⟨x, l, c, zs, hcs, _, hl, hm, hz, _, hcell, hwz⟩
    · simp [Value.cells] at hcs
      obtain ⟨rfl, rfl, rfl⟩ := hcs
      exact ⟨[], .inl ⟨rfl, rfl, rfl, rfl⟩⟩
    · simp [Value.cells] at hcs
      obtain ⟨rfl, rfl, rfl⟩ := hcs
      exact ⟨zs, .inr ⟨_, rfl, hl, hm, by simpa using hz, hcell, hwz⟩⟩
  obtain ⟨a2, rfl, rfl, rfl⟩ := open_bool Try.underlying4 (hval 2 4 v2 rfl rfl) h2
  have hmx : maxLen ≤ 9223372036854775807 := by decide
  obtain ⟨y0a, y0b, y0c⟩ : (z0.take len0).length = len0 ∧ (a0 = none → len0 = 0) ∧ len0 ≤ maxLen := by
    rcases w0 with ⟨e1, e2, e3, e4⟩ | ⟨x, e1, l1, l2, l3, _, _⟩
    · subst e2
      exact ⟨by simp, fun _ => rfl, Nat.zero_le _⟩
    · refine ⟨by simp; omega, fun h => ?_, by omega⟩
      rw [e1] at h
      cases h
  obtain ⟨y1a, y1b, y1c⟩ : (z1.take len1).length = len1 ∧ (a1 = none → len1 = 0) ∧ len1 ≤ maxLen := by
    rcases w1 with ⟨e1, e2, e3, e4⟩ | ⟨x, e1, l1, l2, l3, _, _⟩
    · subst e2
      exact ⟨by simp, fun _ => rfl, Nat.zero_le _⟩
    · refine ⟨by simp; omega, fun h => ?_, by omega⟩
      rw [e1] at h
      cases h
  clear hA0 hval0
  refine (states_walk a0 a1 len0 cap0 len1 cap1 (z0.take len0) (z1.take len1) a2 W (SliceAt.of_isRow w0) (SliceAt.of_isRow w1) y0a y1a y0b y1b (by omega) (by omega)).mono fun e W' ⟨he, bel⟩ => ?_
  subst he
  exact ⟨_, rfl, _, _, _, [], _, [], hW', trodAll_mk1 (shut_bool Try.underlying4 _), (trodAll_cons_mk (Below.trod laidOut (by kernel_rfl) (of_decide_eq_true (by kernel_rfl)) k0 bel lt0) (trodAll_cons_mk (Below.trod laidOut (by kernel_rfl) (of_decide_eq_true (by kernel_rfl)) k1 bel lt1) (trodAll_cons_mk (shut_bool Try.underlying4 _) trodAll_mk0))), rfl, bel.frame _, fun h => by cases h⟩

/-! ### the closed facts, one by one -/
theorem c1 : (Rows.fnStatesIdempotentAndPlainMeansIntegersRow.wf (OpenSpec.ofChange Rows.fnStatesIdempotentAndPlainMeansIntegersSpec)) = true := by kernel_rfl
theorem c2 : (laidOutB Try.pinned.checked.prog) = true := by kernel_rfl
theorem c3 : (mapsRowed Try.pinned.checked.prog) = true := by kernel_rfl
theorem c4 : (Try.f5.params.all (Try.pinned.checked.prog.readableRec ·)) = true := by kernel_rfl
theorem c5 : (namedTie Try.pinned.checked.prog Rows.fnStatesIdempotentAndPlainMeansIntegersRow.named Rows.fnStatesIdempotentAndPlainMeansIntegersSpec.vars) = true := by kernel_rfl
theorem c6 : ((Rows.fnStatesIdempotentAndPlainMeansIntegersRow.stops == [])) = true := by kernel_rfl
theorem c7 : ((Try.pinned.checked.prog.stops == [])) = true := by kernel_rfl
theorem c8 : ((Rows.fnStatesIdempotentAndPlainMeansIntegersRow.knobs == [])) = true := by kernel_rfl
theorem c9 : ((Try.pinned.checked.prog.stopKnobs == [])) = true := by kernel_rfl
theorem c10 : ((Rows.fnStatesIdempotentAndPlainMeansIntegersRow.inPlace == Try.pinned.checked.prog.inPlace 5)) = true := by kernel_rfl
theorem c11 : ((Rows.fnStatesIdempotentAndPlainMeansIntegersRow.unfollowed == Try.pinned.checked.prog.unfollowed 5)) = true := by kernel_rfl
theorem c12 : ((Rows.fnStatesIdempotentAndPlainMeansIntegersRow.recurses == Try.pinned.checked.prog.recurses 5)) = true := by kernel_rfl
theorem c13 : ((Rows.fnStatesIdempotentAndPlainMeansIntegersRow.named == Try.pinned.checked.prog.varsNamed 5)) = true := by kernel_rfl
theorem c14 : ((Rows.fnStatesIdempotentAndPlainMeansIntegersRow.maps == (Try.f5.params.toList ++ Rows.fnStatesIdempotentAndPlainMeansIntegersSpec.plain.varTypes Try.pinned.checked.prog).any (Try.pinned.checked.prog.mapsRec ·))) = true := by kernel_rfl
theorem c15 : ((Rows.fnStatesIdempotentAndPlainMeansIntegersRow.ifaces == (Try.f5.params.toList ++ Rows.fnStatesIdempotentAndPlainMeansIntegersSpec.plain.varTypes Try.pinned.checked.prog).any (Try.pinned.checked.prog.ifacesRec ·))) = true := by kernel_rfl
theorem c16 : ((Rows.fnStatesIdempotentAndPlainMeansIntegersRow.mapsOut == Try.pinned.checked.prog.mapsAmong Try.f5.resultTypes.toList)) = true := by kernel_rfl
theorem c17 : ((Rows.fnStatesIdempotentAndPlainMeansIntegersRow.loops == (Try.f5.params.toList ++ Rows.fnStatesIdempotentAndPlainMeansIntegersSpec.plain.varTypes Try.pinned.checked.prog).any (Try.pinned.checked.prog.loopsFrom ·))) = true := by kernel_rfl
theorem c18 : ((Rows.fnStatesIdempotentAndPlainMeansIntegersRow.wideKeys == (Try.f5.params.toList ++ Rows.fnStatesIdempotentAndPlainMeansIntegersSpec.plain.varTypes Try.pinned.checked.prog ++ Try.f5.resultTypes.toList).any (Try.pinned.checked.prog.wideKeysFrom ·))) = true := by kernel_rfl
theorem c19 : (Rows.fnStatesIdempotentAndPlainMeansIntegersSpec.vars.all (Try.pinned.checked.prog.varReadable ·)) = true := by kernel_rfl
theorem c20 : (Try.f5.resultTypes.all (fun t => Try.pinned.checked.prog.readableRec t && decide (t < Try.pinned.checked.prog.types.size))) = true := by kernel_rfl
theorem c21 : ((Rows.fnStatesIdempotentAndPlainMeansIntegersRow.ifacesOut == Try.f5.resultTypes.toList.any (Try.pinned.checked.prog.ifacesRec ·))) = true := by kernel_rfl
theorem c22 : ((Rows.fnStatesIdempotentAndPlainMeansIntegersRow.loopsOut == Try.f5.resultTypes.toList.any (Try.pinned.checked.prog.loopsFrom ·))) = true := by kernel_rfl
theorem c23 : ((Rows.fnStatesIdempotentAndPlainMeansIntegersRow.plainKeys == Try.pinned.checked.prog.plainKeys)) = true := by kernel_rfl
theorem c24 : (Rows.fnStatesIdempotentAndPlainMeansIntegersRow.shortTexts.isNone) = true := by kernel_rfl
theorem c25 : (Try.pinned.checked.prog.stopsHeard) = true := by kernel_rfl
theorem c26 : Try.pinned.checked.prog.mayEnter = true := may_enter
theorem c27 : (Rows.fnStatesIdempotentAndPlainMeansIntegersRow.lifted == Try.pinned.checked.prog.liftsFinal) = true := by
  have h : Try.pinned.checked.prog.liftsFinal = false := lifts_final
  rw [h]
  rfl
theorem c28 : (Try.pinned.checked.prog.make == some Rows.fnStatesIdempotentAndPlainMeansIntegersRow.make) = true := by
  have h : Try.pinned.checked.prog.make = some .cut := make_is
  rw [h]
  rfl
theorem c29 : ((Rows.fnStatesIdempotentAndPlainMeansIntegersRow.kinds == (if Rows.fnStatesIdempotentAndPlainMeansIntegersRow.domain.isEmpty then [] else Try.f5.params.toList.map fun t => match Try.pinned.checked.prog.underlying t with | some (.int k) => some k | _ => none))) = true := by kernel_rfl
theorem c30 : ((Rows.fnStatesIdempotentAndPlainMeansIntegersRow.pinned == Rows.fnStatesIdempotentAndPlainMeansIntegersRow.pinnedBy)) = true := by kernel_rfl
theorem c31 : ((Rows.fnStatesIdempotentAndPlainMeansIntegersRow.veiled == (Try.f5.params.toList ++ Rows.fnStatesIdempotentAndPlainMeansIntegersSpec.plain.varTypes Try.pinned.checked.prog ++ Try.f5.resultTypes.toList).any (Try.pinned.checked.prog.veiledRec ·))) = true := by kernel_rfl
theorem c32 : (Rows.fnStatesIdempotentAndPlainMeansIntegersRow.veiledFits Try.pinned.checked.prog Try.f5.params.toList (Try.f5.params.toList ++ Rows.fnStatesIdempotentAndPlainMeansIntegersSpec.plain.varTypes Try.pinned.checked.prog ++ Try.f5.resultTypes.toList)) = true := by kernel_rfl
set_option maxRecDepth 100000 in
theorem closed : joinedFacts Try.pinned.checked.prog 5 Try.f5 Rows.fnStatesIdempotentAndPlainMeansIntegersSpec Rows.fnStatesIdempotentAndPlainMeansIntegersRow = true := by
  unfold joinedFacts
  exact (and_of (and_of (and_of (and_of (and_of (and_of (and_of (and_of (and_of (and_of (and_of (and_of (and_of (and_of (and_of (and_of (and_of (and_of (and_of (and_of (and_of (and_of (and_of (and_of (and_of (and_of (and_of (and_of (and_of (and_of (and_of c1 c2) c3) c4) c5) c6) c7) c8) c9) c10) c11) c12) c13) c14) c15) c16) c17) c18) c19) c20) c21) c22) c23) c24) c25) c26) c27) c28) c29) c30) c31) c32)

theorem over : Rows.fnStatesIdempotentAndPlainMeansIntegersRow.holds Try.pinned (OpenSpec.ofChange Rows.fnStatesIdempotentAndPlainMeansIntegersSpec) :=
  OpenClaim.holds_of_wide 5 Try.f5 rfl rfl rfl rfl rfl rfl rfl ⟨rfl, rfl, rfl, rfl, rfl⟩ rfl rfl rfl rfl rfl (by kernel_rfl) Try.func5 closed
    (of_decide_eq_true (by kernel_rfl)) (by unfold Func.isWrapper; first | (rw [if_pos (by decide +kernel)]; kernel_rfl) | (rw [if_neg (by decide +kernel)]; exact ⟨rfl, rfl⟩))
    (fun os started H enc _ => lifted os started H enc)

end Go.Proofs.Qxb6001672a.fnStatesIdempotentAndPlainMeansIntegers

namespace Go.Proofs.Qxb6001672a
/-- THE STATEMENT -/
theorem fnStatesIdempotentAndPlainMeansIntegers_holds : Rows.FnStatesIdempotentAndPlainMeansIntegersSaid := fnStatesIdempotentAndPlainMeansIntegers.over
#print axioms fnStatesIdempotentAndPlainMeansIntegers_holds
end Go.Proofs.Qxb6001672a
