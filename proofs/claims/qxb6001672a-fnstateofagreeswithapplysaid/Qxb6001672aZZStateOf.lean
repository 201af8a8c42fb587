/-
  Seat b6001672a: ZZStateOf, walked.
-/
import Derived.Test.Qxb6001672aStateOf
namespace Go.Proofs.Qxb6001672a
open Go.RowKit

/-- a clone, its cap too -/
theorem ClonePost.exact {w w' : World} {E : TypeId} {len : Nat} {xs : List Value} {e : Ending} (h : ClonePost w E len xs e w') :
    ∃ a', e = .returned (.slice a' len len) ∧ ((a' = none ∧ xs = []) ∨ (a' = some ⟨w.heap.size, 0, none⟩ ∧ RowIs w' w.heap.size E xs)) ∧ Below w.heap.size w w' := by
  rcases h with ⟨rfl, rfl, rfl, rfl⟩ | ⟨rfl, h1, h2⟩
  · exact ⟨none, rfl, Or.inl ⟨rfl, rfl⟩, Below.refl _ _⟩
  · exact ⟨_, rfl, Or.inr ⟨rfl, h1⟩, h2⟩

/-- an intValues, boxed behind its states' clone -/
theorem IV.boxed {w w' : World} {B n : Nat} {a : Option Addr} {us : List Int} (vals : Value) (p : Bool) (hB : B ≤ w.heap.size) (hl : us.length = n)
    (h : (a = none ∧ us.map (Value.int .u8) = []) ∨ (a = some ⟨w.heap.size, 0, none⟩ ∧ RowIs w' w.heap.size 86 (us.map (Value.int .u8)))) (hb : Below w.heap.size w w') :
    IV (w'.alloc (.cells #[vals, .slice a n n, .bool p, .int .i64 0, .int .u8 0] 90)) B w'.heap.size vals a us p := by
  refine ⟨?_, Nat.le_trans hB hb.size, ?_⟩
  · rw [hl]
    exact RowIs.made w' 90 _
  · rcases h with ⟨q1, q2⟩ | ⟨q1, q2⟩
    · exact Or.inl ⟨q1, List.map_eq_nil_iff.1 q2⟩
    · exact Or.inr ⟨w.heap.size, q1, Nat.ne_of_lt q2.lt, hB, q2.alloc _⟩
theorem off_of_exact {w w' : World} {a : Option Addr} {xs : List Value} {E : TypeId} (h : (a = none ∧ xs = []) ∨ (a = some ⟨w.heap.size, 0, none⟩ ∧ RowIs w' w.heap.size E xs)) : ∀ x, a = some x → x.block = w.heap.size := by
  intro x hx
  rcases h with ⟨q, _⟩ | ⟨q, _⟩
  · rw [q] at hx
    cases hx
  · rw [q] at hx
    cases hx
    rfl

/-- an intValues is kept by what is new -/
theorem IV.below {w x : World} {B g : Nat} {vals : Value} {sa : Option Addr} {us : List Int} {p : Bool} (h : IV w B g vals sa us p) (hb : Below w.heap.size w x) : IV x B g vals sa us p :=
  h.kept (hb.block _ h.row.lt) (fun _ _ hlt => hb.block _ hlt)

set_option maxRecDepth 100000 in
set_option maxHeartbeats 3200000 in
theorem zzStateOf_any (B : Nat) (a b : Option Addr) (n ca cb : Nat) (ua ub : List Int) (pa pb : Bool) (w : World)
    (ha : SliceAt B w a (ua.map (Value.int .u8))) (hb : SliceAt B w b (ub.map (Value.int .u8))) (hB : B ≤ w.heap.size) (hla : ua.length = n) (hlb : ub.length = n) (hna : a = none → n = 0) (hnb : b = none → n = 0) (hn : n ≤ 1048576) :
    Calls Try.prog 47 #[.slice a n ca, .bool pa, .slice b n cb, .bool pb] w fun e w' => ∃ a', e = .returned (.tuple #[.slice a' n n, .bool (pa && pb)]) ∧ SliceAt w'.heap.size w' a' ((if pa && pb then List.replicate n 0 else ors (stz pa ua) (stz pb ub)).map (Value.int .u8)) ∧ Below w.heap.size w w' := by
  have hmk := fun w => make_row (P := Try.prog) 85 86 (.int .u8 0) 1 Try.underlying85 Try.info86 rfl n (by omega) (by omega) w
  obtain ⟨W2, hW2⟩ : ∃ W2, W2 = (w.alloc (.cells (Array.replicate n (.int .u8 0)) 86)).alloc (.cells #[.slice none 0 0, .slice (some ⟨w.heap.size, 0, none⟩) n n, .bool false, .int .i64 0, .int .u8 0] 90) := ⟨_, rfl⟩
  have HB2 : Hid (Below w.heap.size w W2) := by
    rw [hW2]
    exact ((Below.refl _ _).alloc (Nat.le_refl _) _).alloc (by simp) _
  have HS2 : Hid (W2.heap.size = w.heap.size + 2) := by rw [hW2]; show _ = _; simp
  have HV2 : Hid (IV W2 w.heap.size (w.heap.size + 1) (.slice none 0 0) (some ⟨w.heap.size, 0, none⟩) (List.replicate n 0) false) := by
    rw [hW2]
    have h1 : RowIs (w.alloc (.cells (Array.replicate n (.int .u8 0)) 86)) w.heap.size 86 ((List.replicate n 0).map (Value.int .u8)) := by
      rw [List.map_replicate]
      have := RowIs.made w 86 (List.replicate n (.int .u8 0))
      simpa using this
    refine ⟨?_, by omega, Or.inr ⟨w.heap.size, rfl, by omega, Nat.le_refl _, h1.alloc _⟩⟩
    rw [List.length_replicate]
    have := RowIs.made (w.alloc (.cells (Array.replicate n (.int .u8 0)) 86)) 90 [.slice none 0 0, .slice (some ⟨w.heap.size, 0, none⟩) n n, .bool false, .int .i64 0, .int .u8 0]
    simpa using this
  have HC2 := hide (clone58 B a n ca ua W2 (ha.kept (HB2.out.mono hB)) (Nat.le_trans hB HB2.out.size) hla hna hn)
  have HD0 : Hid (∀ x, Below w.heap.size w x → SliceAt B x b (ub.map (Value.int .u8)) ∧ B ≤ x.heap.size) := fun x hx => ⟨hb.kept (hx.mono hB), Nat.le_trans hB hx.size⟩
  have HL := hide (And.intro hla (And.intro hlb hnb))
  rw [hW2] at HC2
  have HW2 := hide hW2
  clear ha hb hB hla hlb hna hnb hW2
  obtain ⟨os, hos⟩ : ∃ os, os = if pa && pb then List.replicate n 0 else ors (stz pa ua) (stz pb ub) := ⟨_, rfl⟩
  obtain ⟨pp, hpp⟩ : ∃ pp, pp = (pa && pb) := ⟨_, rfl⟩
  rw [← hos, ← hpp]
  have HOS := hide (And.intro hos hpp)
  have HOl : Hid (os.length = n) := by
    rw [hos]
    show _ = _
    split
    · simp
    · exact ors_length (by rw [stz_length, HL.out.1]) (by rw [stz_length, HL.out.2.1])
  clear hos hpp
  go_enter Try.func47, Try.ntmps47
  go_wp2_with fail
  refine HC2.out.mono ?_
  intro e w3 h3
  rw [← HW2.out] at h3
  obtain ⟨a3, rfl, hs3, hb3⟩ := h3.exact
  have HI3 := hide (IV.boxed (.slice none 0 0) pa (B := w.heap.size) HB2.out.size HL.out.1 hs3 hb3)
  have HA3 := hide (off_of_exact hs3)
  have HV3 := hide ((HV2.out.below hb3).below ((Below.refl _ w3).alloc (Nat.le_refl _) (.cells #[.slice none 0 0, .slice a3 n n, .bool pa, .int .i64 0, .int .u8 0] 90)))
  have HB3 : Hid (Below w.heap.size w (w3.alloc (.cells #[.slice none 0 0, .slice a3 n n, .bool pa, .int .i64 0, .int .u8 0] 90))) := (HB2.out.trans (hb3.mono HB2.out.size)).alloc (Nat.le_trans HB2.out.size hb3.size) _
  have HS3 := hide hb3.size
  clear h3 hs3 hb3 HC2 HV2 HB2 HW2 hmk
  obtain ⟨W3, hW3⟩ : ∃ W3, W3 = w3.alloc (.cells #[.slice none 0 0, .slice a3 n n, .bool pa, .int .i64 0, .int .u8 0] 90) := ⟨_, rfl⟩
  have HZ3 : Hid (W3.heap.size = w3.heap.size + 1) := by rw [hW3]; show _ = _; simp
  rw [← hW3] at HI3 HV3 HB3
  have HC3 := hide (clone58 B b n cb ub W3 (HD0.out W3 HB3.out).1 (HD0.out W3 HB3.out).2 HL.out.2.1 HL.out.2.2 hn)
  have HW3 := hide hW3
  rw [hW3] at HC3
  clear hW3 HD0
  go_wp2_with fail
  refine HC3.out.mono ?_
  intro e w4 h4
  rw [← HW3.out] at h4
  obtain ⟨a4, rfl, hs4, hb4⟩ := h4.exact
  have HI4 := hide (IV.boxed (.slice none 0 0) pb (B := w.heap.size) HB3.out.size HL.out.2.1 hs4 hb4)
  have HA4 := hide (off_of_exact hs4)
  have HV4 := hide ((HV3.out.below hb4).below ((Below.refl _ w4).alloc (Nat.le_refl _) (.cells #[.slice none 0 0, .slice a4 n n, .bool pb, .int .i64 0, .int .u8 0] 90)))
  have HI3' := hide ((HI3.out.below hb4).below ((Below.refl _ w4).alloc (Nat.le_refl _) (.cells #[.slice none 0 0, .slice a4 n n, .bool pb, .int .i64 0, .int .u8 0] 90)))
  have HB4 : Hid (Below w.heap.size w (w4.alloc (.cells #[.slice none 0 0, .slice a4 n n, .bool pb, .int .i64 0, .int .u8 0] 90))) := (HB3.out.trans (hb4.mono HB3.out.size)).alloc (Nat.le_trans HB3.out.size hb4.size) _
  have HS4 := hide hb4.size
  clear h4 hs4 hb4 HC3 HV3 HB3 HI3
  have HC5 := hide (stateOf_any w.heap.size n (w.heap.size + 1) w3.heap.size w4.heap.size w.heap.size _ _ _ a3 a4 ua ub false pa pb _ HV4.out HI3'.out HI4.out HL.out.1 HL.out.2.1
    (fun x hx => ⟨by have := HA3.out x hx; have := HS2.out; omega, fun y hy => by cases hy; have := HA3.out x hx; have := HS2.out; show x.block ≠ w.heap.size; omega⟩)
    (fun x hx => ⟨by have := HA3.out x hx; have := HS3.out; have := HS4.out; have := HZ3.out; omega, fun y hy => by have := HA3.out x hx; have := HA4.out y hy; have := HS3.out; have := HZ3.out; omega⟩)
    (fun x hx => ⟨by have := HA4.out x hx; have := HS2.out; have := HS3.out; have := HZ3.out; omega, fun y hy => by cases hy; have := HA4.out x hx; have := HS2.out; have := HS3.out; have := HZ3.out; show x.block ≠ w.heap.size; omega⟩)
    (fun x hx => ⟨by have := HA4.out x hx; have := HZ3.out; omega, fun y hy => by have := HA4.out x hx; have := HA3.out y hy; have := HS3.out; have := HZ3.out; omega⟩)
    hn HB4.out.size)
  rw [← HOS.out.1, ← HOS.out.2] at HC5
  go_wp2_with fail
  refine HC5.out.mono ?_
  rintro e w5 ⟨rfl, hi5, hb5⟩
  have HI5 := hide hi5
  have HB5 := hide (HB4.out.trans hb5)
  have c1 : w5.cell? ⟨w.heap.size + 1, 1, none⟩ = some (.slice (some ⟨w.heap.size, 0, none⟩) n n) := by rw [hi5.row.cell, HOl.out]; rfl
  have c2 : w5.cell? ⟨w.heap.size + 1, 2, none⟩ = some (.bool pp) := by rw [hi5.row.cell]; rfl
  have HC6 : Hid (Calls Try.prog 60 #[.slice (some ⟨w.heap.size, 0, none⟩) n n] w5.drew fun e w' => ∃ a', e = .returned (.slice a' n n) ∧ Hid (w'.cell? ⟨w.heap.size + 1, 1, none⟩ = some (.slice (some ⟨w.heap.size, 0, none⟩) n n) ∧ w'.cell? ⟨w.heap.size + 1, 2, none⟩ = some (.bool pp)) ∧ Hid (SliceAt w'.heap.size w' a' (os.map (Value.int .u8))) ∧ Hid (Below w.heap.size w w')) := by
    refine (clone60 w5.heap.size (some ⟨w.heap.size, 0, none⟩) n n os w5.drew (SliceAt.of_row hi5.cellAt) (Nat.le_refl _) HOl.out (fun h => by cases h) hn).mono ?_
    intro e w' h
    obtain ⟨a', e1, h2, h3⟩ := h.exact
    have h3' : Below w5.heap.size w5 w' := ((Below.refl _ _).drew).trans h3
    refine ⟨a', e1, ⟨?_, ?_⟩, ?_, (HB5.out.trans (h3'.mono HB5.out.size))⟩
    · rw [h3'.cell (p := ⟨w.heap.size + 1, 1, none⟩) hi5.row.lt]
      exact c1
    · rw [h3'.cell (p := ⟨w.heap.size + 1, 2, none⟩) hi5.row.lt]
      exact c2
    · show SliceAt _ _ _ _
      rcases h2 with ⟨_, q⟩ | ⟨q1, q2⟩
      · exact Or.inl q
      · rw [q1]
        exact SliceAt.of_row q2
  clear hi5 hb5 HC5 HI4 HI3' HV4 HB4
  go_wp2_with fail
  go_region_held3 (fun q => q.cell? ⟨w.heap.size + 1, 1, none⟩ = some (.slice (some ⟨w.heap.size, 0, none⟩) n n) ∧ q.cell? ⟨w.heap.size + 1, 2, none⟩ = some (.bool pp)) (first | exact ⟨c1, c2⟩ | exact HS7.out)
    (first | (go_at_call 60; refine HC6.out.mono ?_; rintro e w7 ⟨a7, rfl, HS7, HT7, HB7⟩))
  go_wp2_with fail
  go_ret2
  exact ⟨a7, rfl, HT7.out, HB7.out⟩

end Go.Proofs.Qxb6001672a
