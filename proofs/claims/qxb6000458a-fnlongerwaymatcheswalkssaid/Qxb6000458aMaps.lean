/-
  A map told by what it holds at each key, its values as they are: it hangs on the map's block alone. Over any program.
-/
import Derived.Maps.OwnSet
import Derived.WalkKit
namespace Go.Proofs.Qxb6000458a
open Go.Maps Go.RowKit
open Go.WideElems (Fit rd rg pl rd_val rd_key rg_of)

/-- an element as it is -/
def valElem (v : Value) : Option (DataW Value × List MemPlace) := some (.held v, [])

/-- BLOCK b IS A MAP OF m ENTRIES THAT HOLDS f -/
def MapIs (w : World) (P : Program) (k : TypeId) (b m : Nat) (f : Lit → Option Value) : Prop :=
  ∃ D : DataW Value, w.ownsMap P k valElem b m D ∧ Maps.size D = m ∧ (∀ kl, Maps.has D kl = (f kl).isSome) ∧ ∀ kl z, D.atKey kl (.held z) = .held ((f kl).getD z)

section
variable {w : World} {P : Program} {k : TypeId} {b m : Nat} {f : Lit → Option Value}

theorem MapIs.made (w : World) (P : Program) (k : TypeId) : MapIs (w.alloc (.map #[] 0)) P k w.heap.size 0 (fun _ => none) :=
  ⟨.map [], World.ownsMap_made w P k valElem, rfl, fun _ => rfl, fun _ _ => rfl⟩

theorem MapIs.kept (h : MapIs w P k b m f) {x : World} (hx : x.heap[b]? = w.heap[b]?) : MapIs x P k b m f := by
  obtain ⟨D, ⟨es, clock, hb, r⟩, h2⟩ := h
  exact ⟨D, ⟨es, clock, hx.trans hb, r⟩, h2⟩

theorem MapIs.lt (h : MapIs w P k b m f) : b < w.heap.size := by
  obtain ⟨D, h1, _⟩ := h
  exact h1.lt

theorem MapIs.look (h : MapIs w P k b m f) (K : Keyed P k) {t e : TypeId} (ht : P.underlying t = some (.map k e)) {z : Value} (hz : (zeroValue e).run P w = .ok z w) {key : Value} {kl : Lit} (hkey : keyOf P k key = some kl) :
    (Instr.lookup t (.map (some b)) key false).run P w = .ok ((f kl).getD z) w := by
  obtain ⟨D, h1, _, _, h4⟩ := h
  obtain ⟨v, ps, hrun, hv⟩ := h1.lookup K ht hz (zd := .held z) (zp := []) rfl hkey
  rw [h4] at hv
  have e : v = (f kl).getD z := by
    simp only [valElem, Option.some.injEq, Prod.mk.injEq, DataW.held.injEq] at hv
    exact hv.1
  rw [hrun, e]

theorem MapIs.lookOk (h : MapIs w P k b m f) (K : Keyed P k) {t e : TypeId} (ht : P.underlying t = some (.map k e)) {z : Value} (hz : (zeroValue e).run P w = .ok z w) {key : Value} {kl : Lit} (hkey : keyOf P k key = some kl) :
    (Instr.lookup t (.map (some b)) key true).run P w = .ok (.tuple #[(f kl).getD z, .bool (f kl).isSome]) w := by
  obtain ⟨D, h1, _, h3, h4⟩ := h
  obtain ⟨v, ps, hrun, hv⟩ := h1.look_ok K ht hz (zd := .held z) (zp := []) rfl hkey
  rw [h4] at hv
  have e : v = (f kl).getD z := by
    simp only [valElem, Option.some.injEq, Prod.mk.injEq, DataW.held.injEq] at hv
    exact hv.1
  rw [hrun, e, h3]

theorem MapIs.len (h : MapIs w P k b m f) {t e : TypeId} (ht : P.underlying t = some (.map k e)) (ty : TypeId) : (Builtin.len_ #[t] ty #[.map (some b)]).run P w = .ok (.int .i64 m) w := by
  obtain ⟨D, h1, h2, _⟩ := h
  rw [h1.len ht ty, h2]

/-- one key more -/
def putF (f : Lit → Option Value) (kl : Lit) (v : Value) : Lit → Option Value := fun x => if x.sameKey kl then some v else f x

theorem putF_same (f : Lit → Option Value) {kl : Lit} (hk : WideAt.IsKeyLit kl) (v : Value) : putF f kl v kl = some v := by
  simp [putF, WideAt.sameKey_self hk]
theorem putF_other (f : Lit → Option Value) {kl x : Lit} (h : x ≠ kl) (v : Value) : putF f kl v x = f x := by
  simp [putF, sameKey_ne h]

theorem MapIs.put (h : MapIs w P k b m f) (K : Keyed P k) {t e : TypeId} (ht : P.underlying t = some (.map k e)) (hm : m < maxLen) {key : Value} {kl : Lit} (hkey : keyOf P k key = some kl) (v : Value) :
    ∃ w', (Instr.mapUpdate t (.map (some b)) key v).run P w = .ok () w' ∧ MapIs w' P k b (if (f kl).isSome then m else m + 1) (putF f kl v) ∧ w.grownBy w' (some b) := by
  obtain ⟨D, h1, h2, h3, h4⟩ := h
  have hkl := K.key hkey
  obtain ⟨w', hrun, ho, hg⟩ := h1.update K ht hm (d := .held v) (ps := []) hkey rfl
  have hsz : Maps.size (D.put kl (.held v)) = if (f kl).isSome then m else m + 1 := by
    rw [size_put (h1.tidy K), h3, h2]
  refine ⟨w', hrun, ⟨D.put kl (.held v), ?_, hsz, fun x => ?_, fun x z => ?_⟩, hg⟩
  · obtain ⟨es, clock, hb, F, hs, hD⟩ := ho
    refine ⟨es, clock, hb, F, ?_, hD⟩
    rw [← hsz, hD]
    simp [Maps.size, length_sorted]
  · by_cases e : x = kl
    · subst e
      rw [has_put_same h1.isMap hkl, putF_same f hkl]
      rfl
    · rw [has_put_other e, putF_other f e, h3]
  · by_cases e : x = kl
    · subst e
      rw [atKey_put_same h1.isMap hkl, putF_same f hkl]
      rfl
    · rw [atKey_put_other e, putF_other f e, h4]

/-- A MAP THAT IS KNOWN BY A READER OF ITS OWN -/
theorem MapIs.of_fit {H : Type} {R : Value → Option (DataW H × List MemPlace)} {es : Array MapEntry} {clock : Nat} (hb : w.heap[b]? = some (.map es clock)) (F : Fit P k R es clock) : ∃ f, MapIs w P k b es.size f := by
  have F0 : Fit P k valElem es clock := ⟨F.size, F.stamped, fun x hx => by
    obtain ⟨y, hy⟩ := F.reads x hx
    exact ⟨(y.1, .held x.val), by simp [rd, rd_key hy, valElem]⟩⟩
  obtain ⟨D, hD⟩ : ∃ D : DataW Value, D = .map ((es.toList.map (rg P k valElem)).foldr DataW.insert []) := ⟨_, rfl⟩
  have hown : w.ownsMap P k valElem b es.size D := ⟨es, clock, hb, F0, Nat.le_refl _, hD⟩
  have hall : ∀ p ∈ (es.toList.map (rg P k valElem)).foldr DataW.insert [], ∃ v, p.2 = .held v := by
    intro p hp
    have hp' := (Go.WideShapes.sorted_perm _).mem_iff.1 hp
    obtain ⟨x, hx, rfl⟩ := List.mem_map.1 hp'
    obtain ⟨y, hy⟩ := F0.reads x hx
    rw [rg_of hy]
    obtain ⟨z, hz, hz2⟩ := rd_val hy
    simp only [valElem, Option.some.injEq] at hz
    subst hz
    exact ⟨x.val, hz2⟩
  refine ⟨fun kl => match D.atKey kl .nil with | .held v => some v | _ => none, D, hown, ?_, fun kl => ?_, fun kl z => ?_⟩
  · rw [hD]
    simp [Maps.size, length_sorted]
  · rw [hD]
    show List.any _ _ = _
    cases hf : ((es.toList.map (rg P k valElem)).foldr DataW.insert []).find? (fun p => p.1.sameKey kl) with
    | none =>
      have := List.find?_eq_none.1 hf
      simp only [DataW.atKey, hf]
      rw [List.any_eq_false.2 (fun p hp => this p hp)]
      rfl
    | some p =>
      obtain ⟨v, hv⟩ := hall p (List.mem_of_find?_eq_some hf)
      simp only [DataW.atKey, hf, hv]
      rw [List.any_eq_true.2 ⟨p, List.mem_of_find?_eq_some hf, by simpa using List.find?_some hf⟩]
      rfl
  · rw [hD]
    cases hf : ((es.toList.map (rg P k valElem)).foldr DataW.insert []).find? (fun p => p.1.sameKey kl) with
    | none => simp only [DataW.atKey, hf]; rfl
    | some p =>
      obtain ⟨v, hv⟩ := hall p (List.mem_of_find?_eq_some hf)
      simp only [DataW.atKey, hf, hv]
      rfl
end

end Go.Proofs.Qxb6000458a
