/-
  Seat b6001672a: FnKeyedHangsOnFirstOrderItemAlone, walked.
-/
import Derived.Test.Qxb6001672aKeyed
namespace Go.Proofs.Qxb6001672a
open Go.RowKit

/-- it returned some bool (behind a name that the walk does not open) -/
def SomeBool (e : Ending) : Prop := ∃ x : Bool, e = .returned (.bool x)

set_option maxHeartbeats 800000 in
theorem zzb20 (a1 a2 : Option Addr) (l1 c1 l2 c2 : Nat) (n1 n2 n3 n4 : Int) (b : Bool) (w : World) (h1 : l1 ≤ 9223372036854775807) (h2 : l2 ≤ 9223372036854775807) :
    Calls Try.prog 20 #[.slice a1 l1 c1, .slice a2 l2 c2, .int .i64 n1, .int .i64 n2, .int .i64 n3, .int .i64 n4, .bool b] w fun e w' => SomeBool e ∧ w' = w := by
  go_enter Try.func20, Try.ntmps20
  go_wp2_with fail
  all_goals
    go_ret
    exact ⟨⟨_, rfl⟩, rfl⟩

theorem ofInt_wrap (n : Int) : BitVec.ofInt 64 (IntKind.i64.wrap n) = BitVec.ofInt 64 n := by
  apply BitVec.eq_of_toNat_eq
  rw [BitVec.toNat_ofInt, BitVec.toNat_ofInt]
  congr 1
  simp [IntKind.wrap, IntKind.bits, IntKind.signed]
  try (split <;> omega)
theorem xor_one_ne (p : Int) : bits .xor .i64 p 1 ≠ p := by
  intro h
  have h1 : BitVec.ofInt 64 (bits .xor .i64 p 1) = BitVec.ofInt 64 p ^^^ 1#64 := by
    show BitVec.ofInt 64 (IntKind.i64.wrap ((BitVec.ofInt 64 p ^^^ BitVec.ofInt 64 1).toNat : Int)) = _
    rw [ofInt_wrap, BitVec.ofInt_natCast, BitVec.ofNat_toNat, BitVec.setWidth_eq]
    rfl
  rw [h] at h1
  have h2 : BitVec.ofInt 64 p ^^^ (BitVec.ofInt 64 p ^^^ 1#64) = BitVec.ofInt 64 p ^^^ BitVec.ofInt 64 p := by rw [← h1]
  rw [← BitVec.xor_assoc, BitVec.xor_self, BitVec.zero_xor] at h2
  exact absurd h2 (by decide)

/-- a clone, both ways in one -/
theorem ClonePost.one {w w' : World} {E : TypeId} {len : Nat} {xs : List Value} {e : Ending} (h : ClonePost w E len xs e w') :
    ∃ a' c', e = .returned (.slice a' len c') ∧ len ≤ c' ∧ SliceAt w'.heap.size w' a' xs ∧ Below w.heap.size w w' ∧ (a' = none → len = 0) := by
  rcases h with ⟨rfl, rfl, rfl, rfl⟩ | ⟨rfl, h1, h2⟩
  · exact ⟨none, 0, rfl, Nat.le_refl _, Or.inl rfl, Below.refl _ _, fun _ => rfl⟩
  · exact ⟨_, _, rfl, Nat.le_refl _, SliceAt.of_row h1, h2, fun q => by cases q⟩

/-- THE COPY LOOP: the first j of both rows stand in the two new ones -/
structure CpInv (w4 wr : World) (zs : List Int) (bs : List Bool) (m j : Nat) : Prop where
  r1 : RowIs wr w4.heap.size 3 ((fill (zs.take j) (m + 1) 0).map (Value.int .i64))
  r2 : RowIs wr (w4.heap.size + 1) 4 ((fill (bs.take j) (m + 1) false).map Value.bool)
  below : Below w4.heap.size w4 wr

theorem CpInv.start (w4 : World) (zs : List Int) (bs : List Bool) (m : Nat) :
    CpInv w4 ((w4.alloc (.cells (Array.replicate (m + 1) (.int .i64 0)) 3)).alloc (.cells (Array.replicate (m + 1) (.bool false)) 4)) zs bs m 0 := by
  refine ⟨?_, ?_, ((Below.refl _ _).alloc (Nat.le_refl _) _).alloc (by simp) _⟩
  · rw [List.take_zero, fill_nil, List.map_replicate]
    have h := (RowIs.made w4 3 (List.replicate (m + 1) (.int .i64 0))).alloc (.cells (Array.replicate (m + 1) (.bool false)) 4)
    simpa using h
  · rw [List.take_zero, fill_nil, List.map_replicate]
    have h := RowIs.made (w4.alloc (.cells (Array.replicate (m + 1) (.int .i64 0)) 3)) 4 (List.replicate (m + 1) (.bool false))
    simpa using h

theorem take_fill_set {α : Type} (zs : List α) (j n : Nat) (z x : α) (hj : j < zs.length) (hn : j < n) (hx : zs[j] = x) : (fill (zs.take j) n z).set j x = fill (zs.take (j + 1)) n z := by
  have h3 := fill_set (xs := zs.take j) (n := n) (by simp; omega) z x
  rw [List.length_take, Nat.min_eq_left (by omega)] at h3
  rw [h3, List.take_succ_eq_append_getElem hj, hx]

theorem CpInv.step {w4 wr : World} {zs : List Int} {bs : List Bool} {m j : Nat} (h : CpInv w4 wr zs bs m j) (hj : j < m) (h1 : j < zs.length) (h2 : j < bs.length) {x : Int} {y : Bool} (hx : zs[j] = x) (hy : bs[j] = y) :
    CpInv w4 ((wr.setCell ⟨w4.heap.size, j, none⟩ (.int .i64 x)).setCell ⟨w4.heap.size + 1, j, none⟩ (.bool y)) zs bs m (j + 1) := by
  refine ⟨?_, ?_, (h.below.setCell (Nat.le_refl _) _).setCell (by simp) _⟩
  · have q := (h.r1.set j (.int .i64 x)).setOther (a := ⟨w4.heap.size + 1, j, none⟩) (by simp) (.bool y)
    rw [← List.map_set, take_fill_set zs j (m + 1) 0 x h1 (by omega) hx] at q
    exact q
  · have q := (h.r2.setOther (a := ⟨w4.heap.size, j, none⟩) (by simp) (.int .i64 x)).set j (.bool y)
    rw [← List.map_set, take_fill_set bs j (m + 1) false y h2 (by omega) hy] at q
    exact q

theorem fill_last {α : Type} (zs : List α) (m : Nat) (z x : α) (hm : m ≤ zs.length) : (fill (zs.take m) (m + 1) z).set m x = zs.take m ++ [x] := by
  have h3 := fill_set (xs := zs.take m) (n := m + 1) (by simp; omega) z x
  rw [List.length_take, Nat.min_eq_left hm] at h3
  rw [h3, fill_full (by simp; omega)]

/-- the two rows, the last place set -/
theorem CpInv.last {w4 wr : World} {zs : List Int} {bs : List Bool} {m : Nat} (h : CpInv w4 wr zs bs m m) (h1 : m ≤ zs.length) (h2 : m ≤ bs.length) (x : Int) (y : Bool) {wl : World} (hwl : wl = (wr.setCell ⟨w4.heap.size, m, none⟩ (.int .i64 x)).setCell ⟨w4.heap.size + 1, m, none⟩ (.bool y)) :
    SliceAt wl.heap.size wl (some ⟨w4.heap.size, 0, none⟩) ((zs.take m ++ [x]).map (Value.int .i64)) ∧ SliceAt wl.heap.size wl (some ⟨w4.heap.size + 1, 0, none⟩) ((bs.take m ++ [y]).map Value.bool) ∧ Below w4.heap.size w4 wl := by
  subst hwl
  refine ⟨?_, ?_, (h.below.setCell (Nat.le_refl _) _).setCell (by simp) _⟩
  · have q := (h.r1.set m (.int .i64 x)).setOther (a := ⟨w4.heap.size + 1, m, none⟩) (by simp) (.bool y)
    rw [← List.map_set, fill_last zs m 0 x h1] at q
    exact SliceAt.of_row q
  · have q := (h.r2.setOther (a := ⟨w4.heap.size, m, none⟩) (by simp) (.int .i64 x)).set m (.bool y)
    rw [← List.map_set, fill_last bs m false y h2] at q
    exact SliceAt.of_row q

theorem getD_take_append {α : Type} (zs : List α) (m : Nat) (x d : α) (h0 : 0 < m) (hm : m ≤ zs.length) : (zs.take m ++ [x]).getD 0 d = zs.getD 0 d := by
  cases zs with
  | nil => simp at hm; omega
  | cons a t =>
    obtain ⟨k, rfl⟩ : ∃ k, m = k + 1 := ⟨m - 1, by omega⟩
    simp
theorem getD_take_one {α : Type} (zs : List α) (d : α) (hm : 0 < zs.length) : (zs.take 1).getD 0 d = zs.getD 0 d := by
  cases zs with
  | nil => simp at hm
  | cons a t => simp

theorem SliceAt.take {B : Nat} {w : World} {a : Option Addr} {xs : List Value} (h : SliceAt B w a xs) (n : Nat) : SliceAt B w a (xs.take n) := by
  rcases h with h | ⟨b, off, e, hB, hc⟩
  · exact Or.inl (by simp [h])
  · refine Or.inr ⟨b, off, e, hB, fun i hi => ?_⟩
    have hi : i < n ∧ i < xs.length := by rw [List.length_take] at hi; omega
    rw [hc i hi.2, List.getD_eq_getElem?_getD, List.getD_eq_getElem?_getD, List.getElem?_take_of_lt hi.1]

set_option maxRecDepth 100000 in
set_option maxHeartbeats 3200000 in
theorem keyed_walk (ac ad : Option Addr) (lc cc ld cd : Nat) (zs : List Int) (bs : List Bool) (off cnt pk ec : Int) (ed : Bool) (w : World)
    (hc : SliceAt w.heap.size w ac (zs.map (Value.int .i64))) (hd : SliceAt w.heap.size w ad (bs.map Value.bool)) (hlc : zs.length = lc) (hld : bs.length = ld) (hnc : ac = none → lc = 0) (hnd : ad = none → ld = 0) (m1 : lc ≤ 9223372036854775807) (m2 : ld ≤ 9223372036854775807) :
    Calls Try.prog 6 #[.slice ac lc cc, .slice ad ld cd, .int .i64 off, .int .i64 cnt, .int .i64 pk, .int .i64 ec, .bool ed] w fun e w' => e = .returned (.bool true) ∧ Below w.heap.size w w' := by
  have HZ := hide (zzb20 ac ad lc cc ld cd off cnt pk ec ed w m1 m2)
  by_cases q1 : lc ≤ 65536
  · by_cases q2 : ld ≤ 65536
    · by_cases q3 : 8 * lc + ld ≤ 1048576
      · have HC1 := hide (clone21 w.heap.size ac lc cc zs w hc (Nat.le_refl _) hlc hnc (by omega))
        have HD0 : Hid (∀ x, Below w.heap.size w x → SliceAt w.heap.size x ad (bs.map Value.bool)) := fun x hx => hd.kept hx
        have HL := hide (And.intro hlc hld)
        have HND := hide hnd
        clear hc hd hlc hld hnc hnd
        go_enter Try.func6, Try.ntmps6
        go_wp2_with (go_at_call 20; refine HZ.out.mono ?_; rintro e w' ⟨⟨x, rfl⟩, hw⟩; subst w')
        · go_ret
          exact ⟨rfl, Below.refl _ _⟩
        refine HC1.out.mono ?_
        intro e w1 h1
        obtain ⟨a1, c1, rfl, hc1, hs1, hb1, hn1⟩ := h1.one
        have HB1 := hide hb1
        have HS1 := hide hs1
        clear h1 hs1 hb1 hn1
        go_wp2_with fail
        refine (clone22 w.heap.size ad ld cd bs w1 (HD0.out w1 HB1.out) HB1.out.size HL.out.2 HND.out (by omega)).mono ?_
        intro e w2 h2
        obtain ⟨a2, c2, rfl, hc2, hs2, hb2, hn2⟩ := h2.one
        have HB2 := hide (HB1.out.trans (hb2.mono HB1.out.size))
        have HS2 := hide hs2
        have HS1' := hide ((HS1.out.kept hb2).mono hb2.size)
        clear h2 hs2 hb2 hn2 HS1 HC1 HD0 HZ HND
        obtain ⟨m, hm⟩ : ∃ m, m = if ld < lc then ld else lc := ⟨_, rfl⟩
        have hml : m ≤ lc ∧ m ≤ ld := by rw [hm]; split <;> omega
        have HO := hide (order_any w2.heap.size a1 a2 lc c1 ld c2 m zs bs off cnt w2 HS1'.out HS2.out (Nat.le_refl _) HL.out.1 HL.out.2 hm (by omega) (by omega))
        have hm' : (ld < lc ∧ m = ld) ∨ (¬ ld < lc ∧ m = lc) := by
          by_cases hlt : ld < lc
          · rw [if_pos hlt] at hm
            exact Or.inl ⟨hlt, hm⟩
          · rw [if_neg hlt] at hm
            exact Or.inr ⟨hlt, hm⟩
        clear hm
        have HMl := hide hml
        have hm5 : m ≤ 65536 := by omega
        have hmc1 : m ≤ c1 := by omega
        have hmc2 : m ≤ c2 := by omega
        clear hml
        obtain ⟨z0, hz0⟩ : ∃ z, z = zs.getD 0 0 := ⟨_, rfl⟩
        obtain ⟨b0, hb0⟩ : ∃ z, z = bs.getD 0 false := ⟨_, rfl⟩
        rw [← hz0, ← hb0] at HO
        have HZB := hide (And.intro hz0 hb0)
        clear hz0 hb0
        rcases hm' with ⟨hlt, hm⟩ | ⟨hlt, hm⟩
        all_goals
          subst hm
          go_wp2_with fail
          refine HO.out.mono ?_
          rintro e w3 ⟨g, rfl, hg3, hcell3, hb3⟩
          obtain ⟨W0, hW0⟩ : ∃ W0, W0 = w3.alloc (.cells #[.slice (some ⟨g, 0, none⟩) m m, .int .i64 off, .int .i64 cnt] 44) := ⟨_, rfl⟩
          have HBW : Hid (Below w.heap.size w W0) := by
            rw [hW0]
            exact (HB2.out.trans (hb3.mono HB2.out.size)).alloc (Nat.le_trans HB2.out.size hb3.size) _
          have HO0 : Hid (RowIs W0 w3.heap.size 44 [.slice (some ⟨g, 0, none⟩) m m, .int .i64 off, .int .i64 cnt]) := by
            rw [hW0]
            exact RowIs.made w3 44 [.slice (some ⟨g, 0, none⟩) m m, .int .i64 off, .int .i64 cnt]
          have HG0 : Hid (g < W0.heap.size) := by show g < W0.heap.size; rw [hW0]; simp; omega
          have HC0 : Hid (0 < m → W0.cell? ⟨g, 0, none⟩ = some (.int .i64 z0) ∧ W0.cell? ⟨g, 1, none⟩ = some (.bool b0)) := by
            intro q
            rw [hW0, World.cell?_alloc_lt _ _ _ hg3, World.cell?_alloc_lt _ _ _ hg3]
            exact hcell3 q
          have HSc : Hid (SliceAt W0.heap.size W0 a1 (zs.map (Value.int .i64))) := by
            rw [hW0]
            have h1 := (HS1'.out.kept hb3).mono hb3.size
            exact (h1.kept ((Below.refl _ _).alloc (Nat.le_refl _) _)).mono (by simp)
          have HSd : Hid (SliceAt W0.heap.size W0 a2 (bs.map Value.bool)) := by
            rw [hW0]
            have h1 := (HS2.out.kept hb3).mono hb3.size
            exact (h1.kept ((Below.refl _ _).alloc (Nat.le_refl _) _)).mono (by simp)
          -- every later keyed over the order
          have HKd : Hid (∀ (x : World) (p : Int), Below W0.heap.size W0 x → Calls Try.prog 24 #[.agg #[.slice (some ⟨g, 0, none⟩) m m, .int .i64 off, .int .i64 cnt], .int .i64 p] x fun e w' => e = .returned (.tuple #[.bool (kd m z0 b0 p).1, .bool (kd m z0 b0 p).2]) ∧ Below W0.heap.size W0 w') := by
            intro x p hx
            refine (zzKeyed_any g m off cnt p z0 b0 x (by omega) (Nat.lt_of_lt_of_le HG0.out hx.size) (fun q => ⟨(hx.cell HG0.out).trans (HC0.out q).1, (hx.cell HG0.out).trans (HC0.out q).2⟩)).mono ?_
            rintro e w' ⟨e1, e2⟩
            exact ⟨e1, hx.trans (e2.mono hx.size)⟩
          have HK1 : Hid (Calls Try.prog 24 #[.agg #[.slice (some ⟨g, 0, none⟩) m m, .int .i64 off, .int .i64 cnt], .int .i64 pk] (w3.alloc (.cells #[.slice (some ⟨g, 0, none⟩) m m, .int .i64 off, .int .i64 cnt] 44)) fun e w' => e = .returned (.tuple #[.bool (kd m z0 b0 pk).1, .bool (kd m z0 b0 pk).2]) ∧ Below W0.heap.size W0 w') := by
            rw [← hW0]
            exact HKd.out W0 pk (Below.refl _ _)
          clear hg3 hcell3 hb3 HO HB1 HB2 hW0 HS1' HS2
          go_wp2_with fail
          refine HK1.out.mono ?_
          rintro e w4 ⟨rfl, hb4⟩
          have HB4 := hide hb4
          clear hb4 HK1
          by_cases h0 : m = 0
          · rw [show kd m z0 b0 pk = (true, false) by simp [kd, h0]]
            have hm0 : ((m : Int) == 0) = true := by simp [h0]
            have HBe := hide (HBW.out.trans (HB4.out.mono HBW.out.size))
            clear h0
            go_wp2_with fail
            go_ret
            exact ⟨rfl, HBe.out⟩
          · have hm0 : ((m : Int) == 0) = false := by simp; omega
            have hmp : 0 < m := by omega
            obtain ⟨kb, hkb⟩ : ∃ kb, kb = (z0 == pk) := ⟨_, rfl⟩
            have HKk : Hid (∀ (n : Nat) (p : Int), 0 < n → kd n z0 b0 p = (z0 == p, b0)) := fun n p hn => by simp [kd]; omega
            rw [HKk.out m pk hmp, ← hkb]
            have HKB := hide hkb
            clear hkb h0
            have hmk1 := fun w => make_row (P := Try.prog) 37 3 (.int .i64 0) 8 Try.underlying37 Try.info3_21 rfl (m + 1) (by omega) (by omega) w
            have hmk2 := fun w => make_row (P := Try.prog) 38 4 (.bool false) 1 Try.underlying38 Try.info4_22 rfl (m + 1) (by omega) (by omega) w
            rw [show ((m + 1 : Nat) : Int) = (m : Int) + 1 by omega] at hmk1 hmk2
            have hzl : m ≤ zs.length := by have := HMl.out.1; have := HL.out.1; omega
            have hbl : m ≤ bs.length := by have := HMl.out.2; have := HL.out.2; omega
            have HZL := hide (And.intro hzl hbl)
            obtain ⟨b1, o1, e1, _, _⟩ := HSc.out.cell (i := 0) (by simp; omega)
            obtain ⟨b2, o2, e2, _, _⟩ := HSd.out.cell (i := 0) (by simp; omega)
            subst e1
            subst e2
            clear hzl hbl
            go_wp2_with fail
            clear hmk1 hmk2
            go_loopw [21] (fun i wr => ∃ j : Nat, j ≤ m ∧ i = .int .i64 j ∧ Hid (CpInv w4 wr zs bs m j)) (fun i _ => m - (intOf i).toNat)
            case atStart => exact ⟨0, Nat.zero_le _, rfl, CpInv.start w4 zs bs m⟩
            case round =>
              obtain ⟨j, hj, rfl, HI⟩ := hrel
              by_cases hjm : j < m
              · have hj1 : j < zs.length := by have := HZL.out.1; omega
                have hj2 : j < bs.length := by have := HZL.out.2; omega
                have HBr := hide (HB4.out.trans (HI.out.below.mono HB4.out.size))
                obtain ⟨b1', o1', e1, hb1, k1⟩ := (HSc.out.kept HBr.out).cell (i := j) (by simpa using hj1)
                obtain ⟨b2', o2', e2, hb2, k2⟩ := (HSd.out.kept HBr.out).cell (i := j) (by simpa using hj2)
                simp only [Option.some.injEq, Addr.mk.injEq, and_true] at e1 e2
                obtain ⟨e11, e12⟩ := e1
                obtain ⟨e21, e22⟩ := e2
                subst e11 e12 e21 e22
                obtain ⟨ck, hck⟩ : ∃ x, x = zs[j] := ⟨_, rfl⟩
                obtain ⟨dk, hdk⟩ : ∃ x, x = bs[j] := ⟨_, rfl⟩
                have g1 : (zs.map (Value.int .i64)).getD j undef = .int .i64 ck := by rw [List.getD_eq_getElem?_getD, List.getElem?_map, List.getElem?_eq_getElem hj1, hck]; rfl
                have g2 : (bs.map Value.bool).getD j undef = .bool dk := by rw [List.getD_eq_getElem?_getD, List.getElem?_map, List.getElem?_eq_getElem hj2, hdk]; rfl
                rw [g1] at k1
                rw [g2] at k2
                have HI2 := hide (HI.out.step hjm hj1 hj2 hck.symm hdk.symm)
                have n1 : w4.heap.size ≠ b1 := by have := HB4.out.size; omega
                have n2 : w4.heap.size ≠ b2 := by have := HB4.out.size; omega
                have q1 := HI.out.r1.cellD (i := j) (by rw [List.length_map, fill_length (by simp; omega)]; omega) undef
                have q2 := HI.out.r2.cellD (i := j) (by rw [List.length_map, fill_length (by simp; omega)]; omega) undef
                obtain ⟨v1, hv1⟩ : ∃ v, v = ((fill (zs.take j) (m + 1) 0).map (Value.int .i64)).getD j undef := ⟨_, rfl⟩
                obtain ⟨v2, hv2⟩ : ∃ v, v = ((fill (bs.take j) (m + 1) false).map Value.bool).getD j undef := ⟨_, rfl⟩
                rw [← hv1] at q1
                rw [← hv2] at q2
                have f1 := HI.out.r1.free j
                have f2 := HI.out.r2.free j
                have hj0 : (0 : Int) ≤ (j : Int) := Int.natCast_nonneg _
                have hjm1 : (j : Int) < (m : Int) + 1 := by omega
                have hjm2 : (j : Int) < (m : Int) := by omega
                first | have hkc : (j : Int) < (lc : Int) := by have := HMl.out.1; omega | skip
                first | have hkd : (j : Int) < (ld : Int) := by have := HMl.out.2; omega | skip
                clear g1 g2 hck hdk hv1 hv2 HI
                go_wp2_with fail
                go_roundw
                case rel => exact ⟨j + 1, by omega, by go_num, HI2⟩
                case measure => simp [intOf]; omega
              · have hjm' : j = m := by omega
                subst hjm'
                have q1 := HI.out.r1.cellD (i := j) (by rw [List.length_map, fill_length (by simp; omega)]; omega) undef
                have q2 := HI.out.r2.cellD (i := j) (by rw [List.length_map, fill_length (by simp; omega)]; omega) undef
                obtain ⟨v1, hv1⟩ : ∃ v, v = ((fill (zs.take j) (j + 1) 0).map (Value.int .i64)).getD j undef := ⟨_, rfl⟩
                obtain ⟨v2, hv2⟩ : ∃ v, v = ((fill (bs.take j) (j + 1) false).map Value.bool).getD j undef := ⟨_, rfl⟩
                rw [← hv1] at q1
                rw [← hv2] at q2
                have f1 := HI.out.r1.free j
                have f2 := HI.out.r2.free j
                have hj0 : (0 : Int) ≤ (j : Int) := Int.natCast_nonneg _
                have hjm1 : (j : Int) < (j : Int) + 1 := by omega
                clear hv1 hv2
                obtain ⟨wl, hwl⟩ : ∃ wl, wl = (wr.setCell ⟨w4.heap.size, j, none⟩ (.int .i64 ec)).setCell ⟨w4.heap.size + 1, j, none⟩ (.bool ed) := ⟨_, rfl⟩
                have HL5 := hide (HI.out.last HZL.out.1 HZL.out.2 ec ed hwl)
                have hwl' := hide hwl
                clear hwl
                go_wp2_with fail
                rw [← hwl'.out]
                have HO2 := order_any wl.heap.size (some ⟨w4.heap.size, 0, none⟩) (some ⟨w4.heap.size + 1, 0, none⟩) (j + 1) (j + 1) (j + 1) (j + 1) (j + 1) (zs.take j ++ [ec]) (bs.take j ++ [ed]) cnt off wl HL5.out.1 HL5.out.2.1 (Nat.le_refl _) (by simp; have := HZL.out.1; omega) (by simp; have := HZL.out.2; omega) (by simp) (by omega) (by omega)
                rw [getD_take_append zs j ec 0 hmp HZL.out.1, getD_take_append bs j ed false hmp HZL.out.2, ← HZB.out.1, ← HZB.out.2] at HO2
                have HBl : Hid (Below W0.heap.size W0 wl) := HB4.out.trans (HL5.out.2.2.mono HB4.out.size)
                clear HI HL5 hwl'
                refine HO2.mono ?_
                clear HO2 q1 q2 f1 f2
                rintro e w5 ⟨g2, rfl, hg5, hcell5, hb5⟩
                have HK5 := hide (zzKeyed_any g2 (j + 1) cnt off pk z0 b0 w5 (by omega) hg5 hcell5)
                rw [HKk.out (j + 1) pk (by omega), ← HKB.out] at HK5
                have HB5 : Hid (Below W0.heap.size W0 w5) := HBl.out.trans (hb5.mono HBl.out.size)
                clear hg5 hcell5 hb5 HBl
                go_wp2_with fail
                refine HK5.out.mono ?_
                rintro e w6 ⟨rfl, hb6⟩
                have HB6 : Hid (Below W0.heap.size W0 w6) := HB5.out.trans (hb6.mono HB5.out.size)
                clear hb6 HB5 HK5
                have hone1 : (1 : Int) ≤ (c1 : Int) := by omega
                have hone2 : (1 : Int) ≤ (c2 : Int) := by omega
                have HO26 : Hid (∀ x, Below W0.heap.size W0 x → Calls Try.prog 23 #[.slice (some ⟨b1, o1, none⟩) 1 c1, .slice (some ⟨b2, o2, none⟩) 1 c2, .int .i64 0, .int .i64 (-1)] x fun e w' => ∃ g', e = .returned (.agg #[.slice (some ⟨g', 0, none⟩) 1 1, .int .i64 0, .int .i64 (-1)]) ∧ Hid (Calls Try.prog 24 #[.agg #[.slice (some ⟨g', 0, none⟩) 1 1, .int .i64 0, .int .i64 (-1)], .int .i64 pk] w' fun e w'' => e = .returned (.tuple #[.bool kb, .bool b0]) ∧ Below W0.heap.size W0 w'')) := by
                  intro x hx
                  have h1 := (HSc.out.kept hx).take 1
                  have h2 := (HSd.out.kept hx).take 1
                  rw [← List.map_take] at h1 h2
                  have h := order_any W0.heap.size (some ⟨b1, o1, none⟩) (some ⟨b2, o2, none⟩) 1 c1 1 c2 1 (zs.take 1) (bs.take 1) 0 (-1) x h1 h2 hx.size (by simp; have := HZL.out.1; omega) (by simp; have := HZL.out.2; omega) (by simp) (by omega) (by omega)
                  rw [getD_take_one zs 0 (by have := HZL.out.1; omega), getD_take_one bs false (by have := HZL.out.2; omega), ← HZB.out.1, ← HZB.out.2] at h
                  refine h.mono ?_
                  rintro e w' ⟨g', e1, q1, q2, q3⟩
                  refine ⟨g', e1, ?_⟩
                  have h3 := zzKeyed_any g' 1 0 (-1) pk z0 b0 w' (by omega) q1 q2
                  rw [HKk.out 1 pk (by omega), ← HKB.out] at h3
                  refine h3.mono ?_
                  rintro e w'' ⟨e1, e2⟩
                  exact ⟨e1, (hx.trans (q3.mono hx.size)).trans (e2.mono (Nat.le_trans hx.size q3.size))⟩
                go_wp2_with fail
                go_region_held3 (fun _ => True) (trivial) (first
                  | (go_at_call 23; refine (HO26.out _ HB6.out.drew).mono ?_; rintro e w7 ⟨g3, rfl, HK26⟩)
                  | (go_at_call 24; refine HK26.out.mono ?_; rintro e w8 ⟨rfl, hb8⟩; have HB8 := hide hb8; clear hb8))
                have HN : Hid (∀ x, Below W0.heap.size W0 x → x.cell? ⟨w3.heap.size, 0, none⟩ = some (.slice (some ⟨g, 0, none⟩) j j) ∧ x.cell? ⟨w3.heap.size, 1, none⟩ = some (.int .i64 off) ∧ x.cell? ⟨w3.heap.size, 2, none⟩ = some (.int .i64 cnt) ∧ x.cell? ⟨b1, o1, none⟩ = some (.int .i64 z0)) := by
                  intro x hx
                  have h1 : RowIs x w3.heap.size 44 _ := HO0.out.kept (hx.block _ HO0.out.lt)
                  obtain ⟨b1', o1', e1, _, k1⟩ := (HSc.out.kept hx).cell (i := 0) (by have := HZL.out.1; simp; omega)
                  simp only [Option.some.injEq, Addr.mk.injEq, and_true] at e1
                  obtain ⟨e11, e12⟩ := e1
                  subst e11 e12
                  refine ⟨by rw [h1.cell]; rfl, by rw [h1.cell]; rfl, by rw [h1.cell]; rfl, ?_⟩
                  rw [Nat.add_zero] at k1
                  rw [k1, HZB.out.1]
                  have hz : 0 < zs.length := by have := HZL.out.1; omega
                  rw [List.getD_eq_getElem?_getD, List.getD_eq_getElem?_getD, List.getElem?_map, List.getElem?_eq_getElem hz]
                  rfl
                have HK29 : Hid (∀ x, Below W0.heap.size W0 x → Calls Try.prog 24 #[.agg #[.slice (some ⟨g, 0, none⟩) j j, .int .i64 off, .int .i64 cnt], .int .i64 z0] x fun e w' => e = .returned (.tuple #[.bool true, .bool b0]) ∧ Below W0.heap.size W0 w') := by
                  intro x hx
                  have h := HKd.out x z0 hx
                  rw [HKk.out j z0 hmp, beq_self_eq_true] at h
                  exact h
                obtain ⟨s0, s1, s2, s3⟩ := HN.out w8 HB8.out
                have hz1 : (0 : Int) < (j : Int) := by omega
                first | have hz3 : 0 < lc := by have := HMl.out.1; omega | skip
                first | have hz2 : (0 : Int) < (lc : Int) := by have := HMl.out.1; omega | skip
                clear HO26 HK26 HB6 hone1 hone2
                go_wp2_with fail
                go_region_held3 (fun x => x.cell? ⟨w3.heap.size, 0, none⟩ = some (.slice (some ⟨g, 0, none⟩) j j) ∧ x.cell? ⟨w3.heap.size, 1, none⟩ = some (.int .i64 off) ∧ x.cell? ⟨w3.heap.size, 2, none⟩ = some (.int .i64 cnt) ∧ x.cell? ⟨b1, o1, none⟩ = some (.int .i64 z0))
                  (first | go_keep | exact hS9)
                  (first | (go_at_call 24; refine (HK29.out _ HB8.out.drew).mono ?_; rintro e w9 ⟨rfl, hb9⟩; have HB9 := hide hb9; have hS9 := HN.out w9 hb9; clear hb9))
                clear s0 s1 s2 s3
                obtain ⟨s0, s1, s2, s3⟩ := hS9
                have HBe := hide (HBW.out.trans (HB9.out.mono HBW.out.size))
                cases kb with
                | false =>
                  go_wp2_with fail
                  go_ret
                  exact ⟨rfl, HBe.out⟩
                | true =>
                  obtain ⟨px, hpx⟩ : ∃ px, px = bits .xor .i64 pk 1 := ⟨_, rfl⟩
                  have HK33 := hide (HKd.out w9 px HB9.out)
                  have hne : (z0 == px) = false := by
                    have e1 : z0 = pk := by simpa using HKB.out.symm
                    rw [hpx, e1]
                    exact beq_false_of_ne (fun h => xor_one_ne pk h.symm)
                  rw [HKk.out j px hmp, hne] at HK33
                  have HPX := hide hpx
                  clear hpx hne
                  go_wp2_with fail
                  rw [← HPX.out]
                  refine HK33.out.mono ?_
                  rintro e wz ⟨rfl, hbz⟩
                  have HBz := hide (HBW.out.trans (hbz.mono HBW.out.size))
                  clear hbz HK33 s0 s1 s2 s3
                  go_wp2_with fail
                  go_ret
                  exact ⟨rfl, HBz.out⟩
      · clear hc hd hlc hld hnc hnd
        go_enter Try.func6, Try.ntmps6
        go_wp2_with (go_at_call 20; refine HZ.out.mono ?_; rintro e w' ⟨⟨x, rfl⟩, hw⟩; subst w')
        all_goals
          go_ret
          exact ⟨rfl, Below.refl _ _⟩
    · clear hc hd hlc hld hnc hnd
      go_enter Try.func6, Try.ntmps6
      go_wp2_with (go_at_call 20; refine HZ.out.mono ?_; rintro e w' ⟨⟨x, rfl⟩, hw⟩; subst w')
      all_goals
        go_ret
        exact ⟨rfl, Below.refl _ _⟩
  · clear hc hd hlc hld hnc hnd
    go_enter Try.func6, Try.ntmps6
    go_wp2_with (go_at_call 20; refine HZ.out.mono ?_; rintro e w' ⟨⟨x, rfl⟩, hw⟩; subst w')
    all_goals
      go_ret
      exact ⟨rfl, Below.refl _ _⟩

end Go.Proofs.Qxb6001672a
