/-
  The statement 'Rows.FnKeyedHangsOnFirstOrderItemAloneSaid', out of the walk.
-/
import Derived.Test.Qxb6001672aLawKeyed
import Derived.Test.Qxb6001672aHead
import Derived.ProofKit
import Derived.OpenShut
import Derived.ShutString
import Derived.ChangeOld
import Derived.Below
namespace Go.Proofs.Qxb6001672a.fnKeyedHangsOnFirstOrderItemAlone
open Go.ChangeShapes Go.WideShapes Go.ChangeAt Go.RowKit
open Go.ChangeMaps (open_string shut_string)
set_option linter.unusedVariables false

theorem own : ownKnob Try.prog.godebug = none := by kernel_rfl
theorem laidOut : laidOutB Try.prog = true := by kernel_rfl

set_option maxRecDepth 100000 in
theorem lifted (os : Os) (started : os.Started) (H : Type) (enc : TypeId × Value → H) :
    ReturnsInHanded {} Try.checked os 6 .any (Rows.fnKeyedHangsOnFirstOrderItemAloneSpec.pre6 enc Try.prog Try.f6 Rows.fnKeyedHangsOnFirstOrderItemAloneRow.domain false) (Rows.fnKeyedHangsOnFirstOrderItemAloneSpec.post enc Try.prog Try.f6 false true false false) := by
  refine returnsInHanded_of_change (C := Try.checked) own started (by kernel_rfl) Try.func6
    (ChangeSpec.witness6 (enc := enc) (C := Try.checked) false ⟨#[], #[.slice none 0 0, .slice none 0 0, .int .i64 0, .int .i64 0, .int .i64 0, .int .i64 0, .bool false], []⟩ 8 (by kernel_rfl) (by kernel_rfl) (by kernel_rfl) (by kernel_rfl)) ?_
  intro W base args ds gs before hval0 hW hcnd _
  have hval : ∀ (j : Nat) t v, Try.f6.params[j]? = some t → args[j]? = some v → Value.okWide Try.prog W .any base t v := hval0
  have hW' := hW
  obtain ⟨p, q, hA0, hV, rfl, hfz, hnd⟩ := hW
  have hA : DataW.TrodAll enc Try.prog W 0 (fun _ => true) true Try.f6.params.toList args.toList ds p := hA0
  rw [Try.params6] at hA hval
  obtain ⟨v0, vs0, d0, ds0, p0, q0, hargs, rfl, rfl, h0, r0⟩ := trodAll_cons hA
  obtain ⟨v1, vs1, d1, ds1, p1, q1, rfl, rfl, rfl, h1, r1⟩ := trodAll_cons r0
  obtain ⟨v2, vs2, d2, ds2, p2, q2, rfl, rfl, rfl, h2, r2⟩ := trodAll_cons r1
  obtain ⟨v3, vs3, d3, ds3, p3, q3, rfl, rfl, rfl, h3, r3⟩ := trodAll_cons r2
  obtain ⟨v4, vs4, d4, ds4, p4, q4, rfl, rfl, rfl, h4, r4⟩ := trodAll_cons r3
  obtain ⟨v5, vs5, d5, ds5, p5, q5, rfl, rfl, rfl, h5, r5⟩ := trodAll_cons r4
  obtain ⟨v6, vs6, d6, ds6, p6, q6, rfl, rfl, rfl, h6, r6⟩ := trodAll_cons r5
  obtain ⟨rfl, rfl, rfl⟩ := trodAll_nil r6
  obtain rfl : args = #[v0, v1, v2, v3, v4, v5, v6] := by cases args; simp_all
  obtain ⟨rfl, rfl⟩ := trodVars_none hV
  obtain ⟨a0, len0, cap0, rfl⟩ := okWide_slice Try.underlying37 (hval 0 37 v0 rfl rfl)
  have k0 := h0
  have lt0 : ∀ x ∈ p0, x.block < W.heap.size := by obtain ⟨m, hm⟩ := k0; exact DataW.trod_lt m _ _ _ hm
  obtain ⟨z0, w0⟩ : ∃ zs, IsRow .i64 W a0 len0 cap0 zs := by
    obtain ⟨fuel, hf⟩ := h0
    rcases open_ints Try.underlying37 Try.underlying3 (by kernel_rfl) hf with ⟨hcs, _⟩ | ⟨x, l, c, zs, hcs, _, hl, hm, hz, _, hcell, hwz⟩
    · simp [Value.cells] at hcs
      obtain ⟨rfl, rfl, rfl⟩ := hcs
      exact ⟨[], .inl ⟨rfl, rfl, rfl, rfl⟩⟩
    · simp [Value.cells] at hcs
      obtain ⟨rfl, rfl, rfl⟩ := hcs
      exact ⟨zs, .inr ⟨_, rfl, hl, hm, by simpa using hz, hcell, hwz⟩⟩
  obtain ⟨a1, len1, cap1, rfl⟩ := okWide_slice Try.underlying38 (hval 1 38 v1 rfl rfl)
  have k1 := h1
  have lt1 : ∀ x ∈ p1, x.block < W.heap.size := by obtain ⟨m, hm⟩ := k1; exact DataW.trod_lt m _ _ _ hm
  obtain ⟨z1, w1⟩ := open_boolRow h1
  obtain ⟨a2, rfl, rfl, rfl, w2⟩ := open_int Try.underlying3 (hval 2 3 v2 rfl rfl) h2
  obtain ⟨a3, rfl, rfl, rfl, w3⟩ := open_int Try.underlying3 (hval 3 3 v3 rfl rfl) h3
  obtain ⟨a4, rfl, rfl, rfl, w4⟩ := open_int Try.underlying3 (hval 4 3 v4 rfl rfl) h4
  obtain ⟨a5, rfl, rfl, rfl, w5⟩ := open_int Try.underlying3 (hval 5 3 v5 rfl rfl) h5
  obtain ⟨a6, rfl, rfl, rfl⟩ := open_bool Try.underlying4 (hval 6 4 v6 rfl rfl) h6
  have hmx : maxLen ≤ 9223372036854775807 := by decide
  obtain ⟨y1, y2, y3⟩ : (z0.take len0).length = len0 ∧ (a0 = none → len0 = 0) ∧ len0 ≤ maxLen := by
    rcases w0 with ⟨e1, e2, e3, e4⟩ | ⟨x, e1, l1, l2, l3, _, _⟩
    · subst e2
      exact ⟨by simp, fun _ => rfl, Nat.zero_le _⟩
    · refine ⟨by simp; omega, fun h => ?_, by omega⟩
      rw [e1] at h
      cases h
  obtain ⟨x1, x2, x3, x4, x5⟩ := w1
  clear hA0 hval0
  refine (keyed_walk a0 a1 len0 cap0 len1 cap1 (z0.take len0) z1 a2 a3 a4 a5 a6 W (SliceAt.of_isRow w0) x5 y1 x1 y2 (fun h => by have := x4 h; omega) (by omega) (by omega)).mono fun e W' ⟨he, bel⟩ => ?_
  subst he
  exact ⟨_, rfl, _, _, _, [], _, [], hW', trodAll_mk1 (shut_bool Try.underlying4 _), (trodAll_cons_mk (Below.trod laidOut (by kernel_rfl) (of_decide_eq_true (by kernel_rfl)) k0 bel lt0) (trodAll_cons_mk (Below.trod laidOut (by kernel_rfl) (of_decide_eq_true (by kernel_rfl)) k1 bel lt1) (trodAll_cons_mk (shut_int Try.underlying3 w2) (trodAll_cons_mk (shut_int Try.underlying3 w3) (trodAll_cons_mk (shut_int Try.underlying3 w4) (trodAll_cons_mk (shut_int Try.underlying3 w5) (trodAll_cons_mk (shut_bool Try.underlying4 _) trodAll_mk0))))))), rfl, bel.frame _, fun h => by cases h⟩

/-! ### the closed facts, one by one -/
theorem c1 : (Rows.fnKeyedHangsOnFirstOrderItemAloneRow.wf (OpenSpec.ofChange Rows.fnKeyedHangsOnFirstOrderItemAloneSpec)) = true := by kernel_rfl
theorem c2 : (laidOutB Try.pinned.checked.prog) = true := by kernel_rfl
theorem c3 : (mapsRowed Try.pinned.checked.prog) = true := by kernel_rfl
theorem c4 : (Try.f6.params.all (Try.pinned.checked.prog.readableRec ·)) = true := by kernel_rfl
theorem c5 : (namedTie Try.pinned.checked.prog Rows.fnKeyedHangsOnFirstOrderItemAloneRow.named Rows.fnKeyedHangsOnFirstOrderItemAloneSpec.vars) = true := by kernel_rfl
theorem c6 : ((Rows.fnKeyedHangsOnFirstOrderItemAloneRow.stops == [])) = true := by kernel_rfl
theorem c7 : ((Try.pinned.checked.prog.stops == [])) = true := by kernel_rfl
theorem c8 : ((Rows.fnKeyedHangsOnFirstOrderItemAloneRow.knobs == [])) = true := by kernel_rfl
theorem c9 : ((Try.pinned.checked.prog.stopKnobs == [])) = true := by kernel_rfl
theorem c10 : ((Rows.fnKeyedHangsOnFirstOrderItemAloneRow.inPlace == Try.pinned.checked.prog.inPlace 6)) = true := by kernel_rfl
theorem c11 : ((Rows.fnKeyedHangsOnFirstOrderItemAloneRow.unfollowed == Try.pinned.checked.prog.unfollowed 6)) = true := by kernel_rfl
theorem c12 : ((Rows.fnKeyedHangsOnFirstOrderItemAloneRow.recurses == Try.pinned.checked.prog.recurses 6)) = true := by kernel_rfl
theorem c13 : ((Rows.fnKeyedHangsOnFirstOrderItemAloneRow.named == Try.pinned.checked.prog.varsNamed 6)) = true := by kernel_rfl
theorem c14 : ((Rows.fnKeyedHangsOnFirstOrderItemAloneRow.maps == (Try.f6.params.toList ++ Rows.fnKeyedHangsOnFirstOrderItemAloneSpec.plain.varTypes Try.pinned.checked.prog).any (Try.pinned.checked.prog.mapsRec ·))) = true := by kernel_rfl
theorem c15 : ((Rows.fnKeyedHangsOnFirstOrderItemAloneRow.ifaces == (Try.f6.params.toList ++ Rows.fnKeyedHangsOnFirstOrderItemAloneSpec.plain.varTypes Try.pinned.checked.prog).any (Try.pinned.checked.prog.ifacesRec ·))) = true := by kernel_rfl
theorem c16 : ((Rows.fnKeyedHangsOnFirstOrderItemAloneRow.mapsOut == Try.pinned.checked.prog.mapsAmong Try.f6.resultTypes.toList)) = true := by kernel_rfl
theorem c17 : ((Rows.fnKeyedHangsOnFirstOrderItemAloneRow.loops == (Try.f6.params.toList ++ Rows.fnKeyedHangsOnFirstOrderItemAloneSpec.plain.varTypes Try.pinned.checked.prog).any (Try.pinned.checked.prog.loopsFrom ·))) = true := by kernel_rfl
theorem c18 : ((Rows.fnKeyedHangsOnFirstOrderItemAloneRow.wideKeys == (Try.f6.params.toList ++ Rows.fnKeyedHangsOnFirstOrderItemAloneSpec.plain.varTypes Try.pinned.checked.prog ++ Try.f6.resultTypes.toList).any (Try.pinned.checked.prog.wideKeysFrom ·))) = true := by kernel_rfl
theorem c19 : (Rows.fnKeyedHangsOnFirstOrderItemAloneSpec.vars.all (Try.pinned.checked.prog.varReadable ·)) = true := by kernel_rfl
theorem c20 : (Try.f6.resultTypes.all (fun t => Try.pinned.checked.prog.readableRec t && decide (t < Try.pinned.checked.prog.types.size))) = true := by kernel_rfl
theorem c21 : ((Rows.fnKeyedHangsOnFirstOrderItemAloneRow.ifacesOut == Try.f6.resultTypes.toList.any (Try.pinned.checked.prog.ifacesRec ·))) = true := by kernel_rfl
theorem c22 : ((Rows.fnKeyedHangsOnFirstOrderItemAloneRow.loopsOut == Try.f6.resultTypes.toList.any (Try.pinned.checked.prog.loopsFrom ·))) = true := by kernel_rfl
theorem c23 : ((Rows.fnKeyedHangsOnFirstOrderItemAloneRow.plainKeys == Try.pinned.checked.prog.plainKeys)) = true := by kernel_rfl
theorem c24 : (Rows.fnKeyedHangsOnFirstOrderItemAloneRow.shortTexts.isNone) = true := by kernel_rfl
theorem c25 : (Try.pinned.checked.prog.stopsHeard) = true := by kernel_rfl
theorem c26 : Try.pinned.checked.prog.mayEnter = true := may_enter
theorem c27 : (Rows.fnKeyedHangsOnFirstOrderItemAloneRow.lifted == Try.pinned.checked.prog.liftsFinal) = true := by
  have h : Try.pinned.checked.prog.liftsFinal = false := lifts_final
  rw [h]
  rfl
theorem c28 : (Try.pinned.checked.prog.make == some Rows.fnKeyedHangsOnFirstOrderItemAloneRow.make) = true := by
  have h : Try.pinned.checked.prog.make = some .cut := make_is
  rw [h]
  rfl
theorem c29 : ((Rows.fnKeyedHangsOnFirstOrderItemAloneRow.kinds == (if Rows.fnKeyedHangsOnFirstOrderItemAloneRow.domain.isEmpty then [] else Try.f6.params.toList.map fun t => match Try.pinned.checked.prog.underlying t with | some (.int k) => some k | _ => none))) = true := by kernel_rfl
theorem c30 : ((Rows.fnKeyedHangsOnFirstOrderItemAloneRow.pinned == Rows.fnKeyedHangsOnFirstOrderItemAloneRow.pinnedBy)) = true := by kernel_rfl
theorem c31 : ((Rows.fnKeyedHangsOnFirstOrderItemAloneRow.veiled == (Try.f6.params.toList ++ Rows.fnKeyedHangsOnFirstOrderItemAloneSpec.plain.varTypes Try.pinned.checked.prog ++ Try.f6.resultTypes.toList).any (Try.pinned.checked.prog.veiledRec ·))) = true := by kernel_rfl
theorem c32 : (Rows.fnKeyedHangsOnFirstOrderItemAloneRow.veiledFits Try.pinned.checked.prog Try.f6.params.toList (Try.f6.params.toList ++ Rows.fnKeyedHangsOnFirstOrderItemAloneSpec.plain.varTypes Try.pinned.checked.prog ++ Try.f6.resultTypes.toList)) = true := by kernel_rfl
set_option maxRecDepth 100000 in
theorem closed : joinedFacts Try.pinned.checked.prog 6 Try.f6 Rows.fnKeyedHangsOnFirstOrderItemAloneSpec Rows.fnKeyedHangsOnFirstOrderItemAloneRow = true := by
  unfold joinedFacts
  exact (and_of (and_of (and_of (and_of (and_of (and_of (and_of (and_of (and_of (and_of (and_of (and_of (and_of (and_of (and_of (and_of (and_of (and_of (and_of (and_of (and_of (and_of (and_of (and_of (and_of (and_of (and_of (and_of (and_of (and_of (and_of c1 c2) c3) c4) c5) c6) c7) c8) c9) c10) c11) c12) c13) c14) c15) c16) c17) c18) c19) c20) c21) c22) c23) c24) c25) c26) c27) c28) c29) c30) c31) c32)

theorem over : Rows.fnKeyedHangsOnFirstOrderItemAloneRow.holds Try.pinned (OpenSpec.ofChange Rows.fnKeyedHangsOnFirstOrderItemAloneSpec) :=
  OpenClaim.holds_of_wide 6 Try.f6 rfl rfl rfl rfl rfl rfl rfl ⟨rfl, rfl, rfl, rfl, rfl⟩ rfl rfl rfl rfl rfl (by kernel_rfl) Try.func6 closed
    (of_decide_eq_true (by kernel_rfl)) (by unfold Func.isWrapper; first | (rw [if_pos (by decide +kernel)]; kernel_rfl) | (rw [if_neg (by decide +kernel)]; exact ⟨rfl, rfl⟩))
    (fun os started H enc _ => lifted os started H enc)

end Go.Proofs.Qxb6001672a.fnKeyedHangsOnFirstOrderItemAlone

namespace Go.Proofs.Qxb6001672a
/-- THE STATEMENT -/
theorem fnKeyedHangsOnFirstOrderItemAlone_holds : Rows.FnKeyedHangsOnFirstOrderItemAloneSaid := fnKeyedHangsOnFirstOrderItemAlone.over
#print axioms fnKeyedHangsOnFirstOrderItemAlone_holds
end Go.Proofs.Qxb6001672a
