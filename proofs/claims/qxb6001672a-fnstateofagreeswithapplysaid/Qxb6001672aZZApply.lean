/-
  Seat b6001672a: ZZApply over zeros, walked.
-/
import Derived.Test.Qxb6001672aApply
import Derived.Test.Qxb6001672aZZStateOf
import Derived.OwnWalk
namespace Go.Proofs.Qxb6001672a
open Go.RowKit

theorem zeros_row (w : World) (e : TypeId) (m : Nat) (kk : IntKind) : RowIs (w.alloc (.cells (Array.replicate m (.int kk 0)) e)) w.heap.size e ((List.replicate m 0).map (Value.int kk)) := by
  rw [List.map_replicate]
  have := RowIs.made w e (List.replicate m (.int kk 0))
  simpa using this

/-- the out, made: numbers first -/
theorem OutI.madeA (W : World) (B m : Nat) (hB : B ≤ W.heap.size) :
    OutI (((W.alloc (.cells (Array.replicate m (.int .i64 0)) 2)).alloc (.cells (Array.replicate m (.int .u8 0)) 86)).alloc (.cells #[.slice (some ⟨W.heap.size, 0, none⟩) m m, .slice (some ⟨W.heap.size + 1, 0, none⟩) m m, .bool false, .int .i64 0, .int .u8 0] 90)) B (W.heap.size + 2) W.heap.size (W.heap.size + 1) m (List.replicate m 0) false := by
  have h1 := ((zeros_row W 2 m .i64).alloc (.cells (Array.replicate m (.int .u8 0)) 86)).alloc (.cells #[.slice (some ⟨W.heap.size, 0, none⟩) m m, .slice (some ⟨W.heap.size + 1, 0, none⟩) m m, .bool false, .int .i64 0, .int .u8 0] 90)
  have h2 := (zeros_row (W.alloc (.cells (Array.replicate m (.int .i64 0)) 2)) 86 m .u8).alloc (.cells #[.slice (some ⟨W.heap.size, 0, none⟩) m m, .slice (some ⟨W.heap.size + 1, 0, none⟩) m m, .bool false, .int .i64 0, .int .u8 0] 90)
  have h3 := RowIs.made ((W.alloc (.cells (Array.replicate m (.int .i64 0)) 2)).alloc (.cells (Array.replicate m (.int .u8 0)) 86)) 90 [.slice (some ⟨W.heap.size, 0, none⟩) m m, .slice (some ⟨W.heap.size + 1, 0, none⟩) m m, .bool false, .int .i64 0, .int .u8 0]
  refine ⟨⟨?_, by omega, Or.inr ⟨W.heap.size + 1, rfl, by omega, by omega, ?_⟩⟩, ⟨List.replicate m 0, h1, by simp⟩, by omega, by omega, hB⟩
  · rw [List.length_replicate]
    simpa using h3
  · simpa using h2
/-- the out, made: states first -/
theorem OutI.madeB (W : World) (B m : Nat) (hB : B ≤ W.heap.size) :
    OutI (((W.alloc (.cells (Array.replicate m (.int .u8 0)) 86)).alloc (.cells (Array.replicate m (.int .i64 0)) 2)).alloc (.cells #[.slice (some ⟨W.heap.size + 1, 0, none⟩) m m, .slice (some ⟨W.heap.size, 0, none⟩) m m, .bool false, .int .i64 0, .int .u8 0] 90)) B (W.heap.size + 2) (W.heap.size + 1) W.heap.size m (List.replicate m 0) false := by
  have h1 := ((zeros_row W 86 m .u8).alloc (.cells (Array.replicate m (.int .i64 0)) 2)).alloc (.cells #[.slice (some ⟨W.heap.size + 1, 0, none⟩) m m, .slice (some ⟨W.heap.size, 0, none⟩) m m, .bool false, .int .i64 0, .int .u8 0] 90)
  have h2 := (zeros_row (W.alloc (.cells (Array.replicate m (.int .u8 0)) 86)) 2 m .i64).alloc (.cells #[.slice (some ⟨W.heap.size + 1, 0, none⟩) m m, .slice (some ⟨W.heap.size, 0, none⟩) m m, .bool false, .int .i64 0, .int .u8 0] 90)
  have h3 := RowIs.made ((W.alloc (.cells (Array.replicate m (.int .u8 0)) 86)).alloc (.cells (Array.replicate m (.int .i64 0)) 2)) 90 [.slice (some ⟨W.heap.size + 1, 0, none⟩) m m, .slice (some ⟨W.heap.size, 0, none⟩) m m, .bool false, .int .i64 0, .int .u8 0]
  refine ⟨⟨?_, by omega, Or.inr ⟨W.heap.size, rfl, by omega, by omega, h1⟩⟩, ⟨List.replicate m 0, ?_, by simp⟩, by omega, by omega, by omega⟩
  · rw [List.length_replicate]
    simpa using h3
  · simpa using h2

theorem OutI.cells {w : World} {B go no so m : Nat} {us : List Int} {p : Bool} (h : OutI w B go no so m us p) (hl : us.length = m) : w.cell? ⟨go, 0, none⟩ = some (.slice (some ⟨no, 0, none⟩) m m) ∧ w.cell? ⟨go, 1, none⟩ = some (.slice (some ⟨so, 0, none⟩) m m) ∧ w.cell? ⟨go, 2, none⟩ = some (.bool p) := by
  refine ⟨by rw [h.iv.row.cell]; rfl, by rw [h.iv.row.cell, hl]; rfl, by rw [h.iv.row.cell]; rfl⟩

/-- the out's states, handed out -/
theorem fromOut {w0 w5 : World} {B go no so m : Nat} {os : List Int} {pp : Bool} (h : OutI w5 B go no so m os pp) (hl : os.length = m) (hm : m ≤ 1048576) (hb : Below B w0 w5) (hB : B ≤ w5.heap.size) :
    Calls Try.prog 60 #[.slice (some ⟨so, 0, none⟩) m m] w5.drew fun e w' => ∃ a', e = .returned (.slice a' m m) ∧ Hid (w'.cell? ⟨go, 0, none⟩ = some (.slice (some ⟨no, 0, none⟩) m m) ∧ w'.cell? ⟨go, 1, none⟩ = some (.slice (some ⟨so, 0, none⟩) m m) ∧ w'.cell? ⟨go, 2, none⟩ = some (.bool pp)) ∧ Hid (SliceAt w'.heap.size w' a' (os.map (Value.int .u8))) ∧ Hid (Below B w0 w') := by
  refine (clone60 w5.heap.size (some ⟨so, 0, none⟩) m m os w5.drew (SliceAt.of_row h.iv.cellAt) (Nat.le_refl _) hl (fun h => by cases h) hm).mono ?_
  intro e w' h6
  obtain ⟨a', e1, h2, h3⟩ := h6.exact
  have h3' : Below w5.heap.size w5 w' := ((Below.refl _ _).drew).trans h3
  refine ⟨a', e1, (h.below h3').cells hl, ?_, (hb.trans (h3'.mono hB))⟩
  show SliceAt _ _ _ _
  rcases h2 with ⟨_, q⟩ | ⟨q1, q2⟩
  · exact Or.inl q
  · rw [q1]
    exact SliceAt.of_row q2

set_option maxRecDepth 100000 in
set_option maxHeartbeats 3200000 in
theorem zzApply_any (B : Nat) (na nb a b : Option Addr) (m cna cnb ca cb : Nat) (ua ub : List Int) (pa pb : Bool) (w : World)
    (hna : SliceAt B w na ((List.replicate m 0).map (Value.int .i64))) (hnb : SliceAt B w nb ((List.replicate m 0).map (Value.int .i64))) (hca : m ≤ cna) (hcb : m ≤ cnb)
    (ha : SliceAt B w a (ua.map (Value.int .u8))) (hb : SliceAt B w b (ub.map (Value.int .u8))) (hB : B ≤ w.heap.size) (hla : ua.length = m) (hlb : ub.length = m) (hn1 : a = none → m = 0) (hn2 : b = none → m = 0) (hm : m ≤ 1048576) :
    Calls Try.prog 41 #[.int .i8 0, .slice na m cna, .slice a m ca, .bool pa, .slice nb m cnb, .slice b m cb, .bool pb] w fun e w' => ∃ no a', e = .returned (.tuple #[.slice (some ⟨no, 0, none⟩) m m, .slice a' m m, .bool (pa && pb)]) ∧ SliceAt w'.heap.size w' a' ((if pa && pb then List.replicate m 0 else stjs (stz pa ua) (stz pb ub)).map (Value.int .u8)) ∧ Below w.heap.size w w' := by
  have hmk1 := fun w => make_row (P := Try.prog) 27 2 (.int .i64 0) 8 Try.underlying27 Try.info2_15 rfl m (by omega) (by omega) w
  have hmk2 := fun w => make_row (P := Try.prog) 85 86 (.int .u8 0) 1 Try.underlying85 Try.info86 rfl m (by omega) (by omega) w
  have HC1 := hide (clone58 B a m ca ua w ha hB hla hn1 hm)
  have HD0 : Hid (∀ x, Below w.heap.size w x → SliceAt B x b (ub.map (Value.int .u8)) ∧ B ≤ x.heap.size) := fun x hx => ⟨hb.kept (hx.mono hB), Nat.le_trans hB hx.size⟩
  have HN : Hid (∀ x, Below w.heap.size w x → SliceAt w.heap.size x na ((List.replicate m 0).map (Value.int .i64)) ∧ SliceAt w.heap.size x nb ((List.replicate m 0).map (Value.int .i64))) := fun x hx => ⟨(hna.mono hB).kept hx, (hnb.mono hB).kept hx⟩
  have HL := hide (And.intro hla (And.intro hlb hn2))
  clear ha hb hB hla hlb hn1 hn2 hna hnb
  obtain ⟨os, hos⟩ : ∃ os, os = if pa && pb then List.replicate m 0 else stjs (stz pa ua) (stz pb ub) := ⟨_, rfl⟩
  obtain ⟨pp, hpp⟩ : ∃ pp, pp = (pa && pb) := ⟨_, rfl⟩
  rw [← hos, ← hpp]
  have HOS := hide (And.intro hos hpp)
  have HOl : Hid (os.length = m) := by
    rw [hos]
    show _ = _
    split
    · simp
    · exact stjs_length (by rw [stz_length, HL.out.1]) (by rw [stz_length, HL.out.2.1])
  clear hos hpp
  go_enter Try.func41, Try.ntmps41
  go_wp2_with fail
  refine HC1.out.mono ?_
  intro e w1 h1
  obtain ⟨a1, rfl, hs1, hb1⟩ := h1.exact
  obtain ⟨W1, hW1⟩ : ∃ W1, W1 = w1.alloc (.cells #[.slice na m cna, .slice a1 m m, .bool pa, .int .i64 0, .int .u8 0] 90) := ⟨_, rfl⟩
  have HI1 := hide (IV.boxed (.slice na m cna) pa (B := w.heap.size) (Nat.le_refl _) HL.out.1 hs1 hb1)
  have HA1 := hide (off_of_exact hs1)
  have HB1 : Hid (Below w.heap.size w W1) := by rw [hW1]; exact hb1.alloc hb1.size _
  have HS1 : Hid (w.heap.size ≤ w1.heap.size ∧ W1.heap.size = w1.heap.size + 1 ∧ (∀ x, a1 = some x → x.block < w1.heap.size)) := by
    refine ⟨hb1.size, by rw [hW1]; simp, fun x hx => ?_⟩
    rcases hs1 with ⟨q, _⟩ | ⟨q, r⟩
    · rw [q] at hx
      cases hx
    · rw [q] at hx
      cases hx
      exact r.lt
  rw [← hW1] at HI1
  have HC2 := hide (clone58 B b m cb ub W1 (HD0.out W1 HB1.out).1 (HD0.out W1 HB1.out).2 HL.out.2.1 HL.out.2.2 hm)
  have HW1 := hide hW1
  rw [hW1] at HC2
  clear hW1 h1 hs1 hb1 HC1 HD0
  go_wp2_with fail
  refine HC2.out.mono ?_
  intro e w2 h2
  rw [← HW1.out] at h2
  obtain ⟨a2, rfl, hs2, hb2⟩ := h2.exact
  obtain ⟨W2, hW2⟩ : ∃ W2, W2 = w2.alloc (.cells #[.slice nb m cnb, .slice a2 m m, .bool pb, .int .i64 0, .int .u8 0] 90) := ⟨_, rfl⟩
  have HI2 := hide (IV.boxed (.slice nb m cnb) pb (B := w.heap.size) HB1.out.size HL.out.2.1 hs2 hb2)
  have HA2 := hide (off_of_exact hs2)
  have HI1' := hide ((HI1.out.below hb2).below ((Below.refl _ w2).alloc (Nat.le_refl _) (.cells #[.slice nb m cnb, .slice a2 m m, .bool pb, .int .i64 0, .int .u8 0] 90)))
  have HB2 : Hid (Below w.heap.size w W2) := by
    rw [hW2]
    exact (HB1.out.trans (hb2.mono HB1.out.size)).alloc (Nat.le_trans HB1.out.size hb2.size) _
  have HS2 : Hid (W1.heap.size ≤ w2.heap.size ∧ W2.heap.size = w2.heap.size + 1 ∧ (∀ x, a2 = some x → x.block < w2.heap.size)) := by
    refine ⟨hb2.size, by rw [hW2]; simp, fun x hx => ?_⟩
    rcases hs2 with ⟨q, _⟩ | ⟨q, r⟩
    · rw [q] at hx
      cases hx
    · rw [q] at hx
      cases hx
      exact r.lt
  rw [← hW2] at HI2 HI1'
  have HAP : Hid (∀ (Wo : World) (go no so : Nat), OutI Wo w.heap.size go no so m (List.replicate m 0) false → Below W2.heap.size W2 Wo → W2.heap.size ≤ go → W2.heap.size ≤ no → W2.heap.size ≤ so → Calls Try.prog 59 #[.agg #[.int .i8 0], .pointer (some ⟨w1.heap.size, 0, none⟩), .pointer (some ⟨w2.heap.size, 0, none⟩), .pointer (some ⟨go, 0, none⟩)] Wo fun e w' => e = .returned (.tuple #[]) ∧ Hid (OutI w' w.heap.size go no so m os pp) ∧ Hid (Below w.heap.size w w')) := by
    intro Wo go no so ho hbo g1 g2 g3
    have hbw : Below w.heap.size w Wo := HB2.out.trans (hbo.mono HB2.out.size)
    have s1 := HS1.out
    have s2 := HS2.out
    have h := apply_any w.heap.size m w1.heap.size w2.heap.size go no so na nb a1 a2 cna cnb ua ub pa pb false Wo ho (HI1'.out.below hbo) (HI2.out.below hbo) HL.out.1 HL.out.2.1 (HN.out Wo hbw).1 (HN.out Wo hbw).2 hca hcb
      (fun x hx => ⟨by have := s1.2.2 x hx; omega, fun y hy => by cases hy; have := s1.2.2 x hx; show x.block ≠ so; omega⟩)
      (fun x hx => ⟨by have := s1.2.2 x hx; omega, fun y hy => by cases hy⟩)
      (fun x hx => ⟨by have := s1.2.2 x hx; omega, fun y hy => by have := s1.2.2 x hx; have := HA2.out y hy; omega⟩)
      (fun x hx => ⟨by have := s2.2.2 x hx; omega, fun y hy => by cases hy; have := s2.2.2 x hx; show x.block ≠ so; omega⟩)
      (fun x hx => ⟨by have := s2.2.2 x hx; omega, fun y hy => by cases hy⟩)
      (fun x hx => ⟨by have := HA2.out x hx; omega, fun y hy => by have := HA2.out x hx; have := s1.2.2 y hy; omega⟩)
      hm hbw.size
    rw [← HOS.out.1, ← HOS.out.2] at h
    refine h.mono ?_
    rintro e w' ⟨e1, e2, e3⟩
    exact ⟨e1, e2, hbw.trans e3⟩
  have HW2 := hide hW2
  clear hW2 h2 hs2 hb2 HC2 HI1
  go_wp2_with fail
  rw [← HW2.out]
  go_region_held3 (fun _ => True) (trivial) (fail)
  · have HP : Hid (Calls Try.prog 59 #[.agg #[.int .i8 0], .pointer (some ⟨w1.heap.size, 0, none⟩), .pointer (some ⟨w2.heap.size, 0, none⟩), .pointer (some ⟨W2.heap.size + 1 + 1, 0, none⟩)] (((W2.alloc (.cells (Array.replicate m (.int .i64 0)) 2)).alloc (.cells (Array.replicate m (.int .u8 0)) 86)).alloc (.cells #[.slice (some ⟨W2.heap.size, 0, none⟩) m m, .slice (some ⟨W2.heap.size + 1, 0, none⟩) m m, .bool false, .int .i64 0, .int .u8 0] 90)).drew fun e w' => e = .returned (.tuple #[]) ∧ Hid (OutI w' w.heap.size (W2.heap.size + 1 + 1) (W2.heap.size) (W2.heap.size + 1) m os pp) ∧ Hid (Below w.heap.size w w')) :=
      HAP.out _ (W2.heap.size + 1 + 1) (W2.heap.size) (W2.heap.size + 1) (OutI.madeA W2 w.heap.size m HB2.out.size).drew ((((Below.refl _ _).alloc (Nat.le_refl _) _).alloc (by simp) _).alloc (by simp; omega) _).drew (by omega) (by omega) (by omega)
    clear HAP hmk1 hmk2
    go_wp2_with fail
    refine HP.out.mono ?_
    rintro e w5 ⟨rfl, HO5, HB5⟩
    obtain ⟨c0, c1, c2⟩ := HO5.out.cells HOl.out
    have HF := hide (fromOut HO5.out HOl.out hm HB5.out HB5.out.size)
    clear HP HO5
    go_wp2_with fail
    go_region_held3 (fun q => q.cell? ⟨W2.heap.size + 1 + 1, 0, none⟩ = some (.slice (some ⟨W2.heap.size, 0, none⟩) m m) ∧ q.cell? ⟨W2.heap.size + 1 + 1, 1, none⟩ = some (.slice (some ⟨W2.heap.size + 1, 0, none⟩) m m) ∧ q.cell? ⟨W2.heap.size + 1 + 1, 2, none⟩ = some (.bool pp)) (first | exact ⟨c0, c1, c2⟩ | exact HS7.out)
      (first | (go_at_call 60; refine HF.out.mono ?_; rintro e w7 ⟨a7, rfl, HS7, HT7, HB7⟩))
    go_wp2_with fail
    go_ret3
    exact ⟨_, a7, rfl, HT7.out, HB7.out⟩
  · have HP : Hid (Calls Try.prog 59 #[.agg #[.int .i8 0], .pointer (some ⟨w1.heap.size, 0, none⟩), .pointer (some ⟨w2.heap.size, 0, none⟩), .pointer (some ⟨W2.heap.size + 1 + 1, 0, none⟩)] (((W2.alloc (.cells (Array.replicate m (.int .u8 0)) 86)).alloc (.cells (Array.replicate m (.int .i64 0)) 2)).alloc (.cells #[.slice (some ⟨W2.heap.size + 1, 0, none⟩) m m, .slice (some ⟨W2.heap.size, 0, none⟩) m m, .bool false, .int .i64 0, .int .u8 0] 90)).drew fun e w' => e = .returned (.tuple #[]) ∧ Hid (OutI w' w.heap.size (W2.heap.size + 1 + 1) (W2.heap.size + 1) (W2.heap.size) m os pp) ∧ Hid (Below w.heap.size w w')) :=
      HAP.out _ (W2.heap.size + 1 + 1) (W2.heap.size + 1) (W2.heap.size) (OutI.madeB W2 w.heap.size m HB2.out.size).drew ((((Below.refl _ _).alloc (Nat.le_refl _) _).alloc (by simp) _).alloc (by simp; omega) _).drew (by omega) (by omega) (by omega)
    clear HAP hmk1 hmk2
    go_wp2_with fail
    refine HP.out.mono ?_
    rintro e w5 ⟨rfl, HO5, HB5⟩
    obtain ⟨c0, c1, c2⟩ := HO5.out.cells HOl.out
    have HF := hide (fromOut HO5.out HOl.out hm HB5.out HB5.out.size)
    clear HP HO5
    go_wp2_with fail
    go_region_held3 (fun q => q.cell? ⟨W2.heap.size + 1 + 1, 0, none⟩ = some (.slice (some ⟨W2.heap.size + 1, 0, none⟩) m m) ∧ q.cell? ⟨W2.heap.size + 1 + 1, 1, none⟩ = some (.slice (some ⟨W2.heap.size, 0, none⟩) m m) ∧ q.cell? ⟨W2.heap.size + 1 + 1, 2, none⟩ = some (.bool pp)) (first | exact ⟨c0, c1, c2⟩ | exact HS7.out)
      (first | (go_at_call 60; refine HF.out.mono ?_; rintro e w7 ⟨a7, rfl, HS7, HT7, HB7⟩))
    go_wp2_with fail
    go_ret3
    exact ⟨_, a7, rfl, HT7.out, HB7.out⟩

end Go.Proofs.Qxb6001672a
