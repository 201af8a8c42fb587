/-
  Seat b6001672a: FnStateOfAgreesWithApply, walked.
-/
import Derived.Test.Qxb6001672aZZApply
import Derived.Test.Qxb6001672aStPure
namespace Go.Proofs.Qxb6001672a
open Go.RowKit

/-- it returned some bool (behind a name that the walk does not open) -/
def OneBool (e : Ending) : Prop := ∃ x : Bool, e = .returned (.bool x)

set_option maxHeartbeats 800000 in
theorem zzb46 (a1 a2 : Option Addr) (l1 c1 l2 c2 : Nat) (p q : Bool) (w : World) (h1 : l1 ≤ 9223372036854775807) (h2 : l2 ≤ 9223372036854775807) :
    Calls Try.prog 46 #[.slice a1 l1 c1, .bool p, .slice a2 l2 c2, .bool q] w fun e w' => OneBool e ∧ w' = w := by
  go_enter Try.func46, Try.ntmps46
  go_wp2_with fail
  all_goals
    go_ret
    exact ⟨⟨_, rfl⟩, rfl⟩

/-- a clone, both ways in one -/
theorem ClonePost.each {w w' : World} {E : TypeId} {len : Nat} {xs : List Value} {e : Ending} (h : ClonePost w E len xs e w') :
    ∃ a', e = .returned (.slice a' len len) ∧ SliceAt w'.heap.size w' a' xs ∧ Below w.heap.size w w' ∧ (a' = none → len = 0) := by
  rcases h with ⟨rfl, rfl, rfl, rfl⟩ | ⟨rfl, h1, h2⟩
  · exact ⟨none, rfl, Or.inl rfl, Below.refl _ _, fun _ => rfl⟩
  · exact ⟨_, rfl, SliceAt.of_row h1, h2, fun q => by cases q⟩

/-! ### ZZStateOf and ZZApply, by the marks -/
section
variable (B : Nat) (a b : Option Addr) (n ca cb : Nat) (ua ub : List Int) (pa pb : Bool) (w : World)
theorem zzStateOf_off (ha : SliceAt B w a (ua.map (Value.int .u8))) (hb : SliceAt B w b (ub.map (Value.int .u8))) (hB : B ≤ w.heap.size) (hla : ua.length = n) (hlb : ub.length = n) (hna : a = none → n = 0) (hnb : b = none → n = 0) (hn : n ≤ 1048576) (hp : (pa && pb) = false) :
    Calls Try.prog 47 #[.slice a n ca, .bool pa, .slice b n cb, .bool pb] w fun e w' => ∃ a', e = .returned (.tuple #[.slice a' n n, .bool false]) ∧ Hid (SliceAt w'.heap.size w' a' ((ors (stz pa ua) (stz pb ub)).map (Value.int .u8))) ∧ Hid (Below w.heap.size w w') := by
  have h := zzStateOf_any B a b n ca cb ua ub pa pb w ha hb hB hla hlb hna hnb hn
  rw [hp] at h
  exact h
theorem zzStateOf_on (ha : SliceAt B w a (ua.map (Value.int .u8))) (hb : SliceAt B w b (ub.map (Value.int .u8))) (hB : B ≤ w.heap.size) (hla : ua.length = n) (hlb : ub.length = n) (hna : a = none → n = 0) (hnb : b = none → n = 0) (hn : n ≤ 1048576) :
    Calls Try.prog 47 #[.slice a n ca, .bool true, .slice b n cb, .bool true] w fun e w' => ∃ a', e = .returned (.tuple #[.slice a' n n, .bool true]) ∧ Hid (Below w.heap.size w w') := by
  refine (zzStateOf_any B a b n ca cb ua ub true true w ha hb hB hla hlb hna hnb hn).mono ?_
  rintro e w' ⟨a', e1, _, e3⟩
  exact ⟨a', e1, e3⟩
variable (na nb : Option Addr)
theorem zzApply_off (hna : SliceAt B w na ((List.replicate n 0).map (Value.int .i64))) (hnb : SliceAt B w nb ((List.replicate n 0).map (Value.int .i64))) (ha : SliceAt B w a (ua.map (Value.int .u8))) (hb : SliceAt B w b (ub.map (Value.int .u8))) (hB : B ≤ w.heap.size) (hla : ua.length = n) (hlb : ub.length = n) (hn1 : a = none → n = 0) (hn2 : b = none → n = 0) (hm : n ≤ 1048576) (hp : (pa && pb) = false) :
    Calls Try.prog 41 #[.int .i8 0, .slice na n n, .slice a n ca, .bool pa, .slice nb n n, .slice b n cb, .bool pb] w fun e w' => ∃ no a', e = .returned (.tuple #[.slice (some ⟨no, 0, none⟩) n n, .slice a' n n, .bool false]) ∧ Hid (SliceAt w'.heap.size w' a' ((stjs (stz pa ua) (stz pb ub)).map (Value.int .u8))) ∧ Hid (Below w.heap.size w w') := by
  have h := zzApply_any B na nb a b n n n ca cb ua ub pa pb w hna hnb (Nat.le_refl _) (Nat.le_refl _) ha hb hB hla hlb hn1 hn2 hm
  rw [hp] at h
  exact h
theorem zzApply_on (hna : SliceAt B w na ((List.replicate n 0).map (Value.int .i64))) (hnb : SliceAt B w nb ((List.replicate n 0).map (Value.int .i64))) (ha : SliceAt B w a (ua.map (Value.int .u8))) (hb : SliceAt B w b (ub.map (Value.int .u8))) (hB : B ≤ w.heap.size) (hla : ua.length = n) (hlb : ub.length = n) (hn1 : a = none → n = 0) (hn2 : b = none → n = 0) (hm : n ≤ 1048576) :
    Calls Try.prog 41 #[.int .i8 0, .slice na n n, .slice a n ca, .bool true, .slice nb n n, .slice b n cb, .bool true] w fun e w' => ∃ no a', e = .returned (.tuple #[.slice (some ⟨no, 0, none⟩) n n, .slice a' n n, .bool true]) ∧ Hid (Below w.heap.size w w') := by
  refine (zzApply_any B na nb a b n n n ca cb ua ub true true w hna hnb (Nat.le_refl _) (Nat.le_refl _) ha hb hB hla hlb hn1 hn2 hm).mono ?_
  rintro e w' ⟨no, a', e1, _, e3⟩
  exact ⟨no, a', e1, e3⟩
end

theorem stz_range {p : Bool} {us : List Int} (h : ∀ x ∈ us, 0 ≤ x ∧ x < 256) : ∀ x ∈ stz p us, 0 ≤ x ∧ x < 256 := by
  cases p with
  | false => exact h
  | true =>
    intro x hx
    rw [show stz true us = List.replicate us.length 0 from rfl] at hx
    rw [List.eq_of_mem_replicate hx]
    decide

/-- the plain law of one row -/
theorem stj_inexact (x y : Int) : (stj x y == 2) = (bits .and .u8 (bits .or .u8 x y) 2 != 0) := by
  unfold stj tst
  cases h : (bits .and .u8 (bits .or .u8 x y) 2 != 0) with
  | true => rfl
  | false =>
    simp only [Bool.false_eq_true, if_false]
    split <;> rfl
theorem stj_zero {x y : Int} (hx0 : 0 ≤ x) (hx1 : x < 256) (hy0 : 0 ≤ y) (hy1 : y < 256) (h : bits .or .u8 x y = 0) : stj x y = 0 := by
  obtain ⟨rfl, rfl⟩ := bits_or_zero hx0 hx1 hy0 hy1 h
  decide

set_option maxRecDepth 100000 in
set_option maxHeartbeats 3200000 in
theorem stateOf_walk (av bw : Option Addr) (la ca lb cb : Nat) (ua ub : List Int) (pa pb : Bool) (w : World)
    (hv : SliceAt w.heap.size w av (ua.map (Value.int .u8))) (hs : SliceAt w.heap.size w bw (ub.map (Value.int .u8))) (hlv : ua.length = la) (hls : ub.length = lb) (hnv : av = none → la = 0) (hns : bw = none → lb = 0) (m1 : la ≤ 9223372036854775807) (m2 : lb ≤ 9223372036854775807)
    (ra : ∀ x ∈ ua, 0 ≤ x ∧ x < 256) (rb : ∀ x ∈ ub, 0 ≤ x ∧ x < 256) :
    Calls Try.prog 11 #[.slice av la ca, .bool pa, .slice bw lb cb, .bool pb] w fun e w' => e = .returned (.bool true) ∧ Below w.heap.size w w' := by
  have HZ := hide (zzb46 av bw la ca lb cb pa pb w m1 m2)
  by_cases q1 : la ≤ 65536
  · by_cases q2 : lb ≤ 65536
    · by_cases q4 : lb = la
      · subst q4
        have q5 : lb + lb ≤ 1048576 := by omega
        have hmk := fun w => make_row (P := Try.prog) 27 2 (.int .i64 0) 8 Try.underlying27 Try.info2_15 rfl lb (by omega) (by omega) w
        have HC1 := hide (clone40 w.heap.size av lb ca ua w hv (Nat.le_refl _) hlv hnv (by omega))
        have HD0 : Hid (∀ x, Below w.heap.size w x → SliceAt w.heap.size x bw (ub.map (Value.int .u8))) := fun x hx => hs.kept hx
        have HL := hide (And.intro hlv hls)
        have HNS := hide hns
        have HRG := hide (And.intro ra rb)
        clear hv hs hlv hls hnv hns ra rb
        by_cases hpp : (pa && pb) = true
        · have h1 : pa = true := by cases pa <;> simp_all
          have h2 : pb = true := by cases pb <;> simp_all
          subst h1
          subst h2
          clear hpp
          go_enter Try.func11, Try.ntmps11
          go_wp2_with (go_at_call 46; refine HZ.out.mono ?_; rintro e w' ⟨⟨x, rfl⟩, hw⟩; subst w')
          · go_ret
            exact ⟨rfl, Below.refl _ _⟩
          refine HC1.out.mono ?_
          intro e w1 h1
          obtain ⟨a1, rfl, hs1, hb1, hn1⟩ := h1.each
          have HB1 := hide hb1
          have HS1 := hide hs1
          have HN1 := hide hn1
          clear h1 hs1 hb1 hn1 HC1 HZ
          go_wp2_with fail
          refine (clone40 w.heap.size bw lb cb ub w1 (HD0.out w1 HB1.out) HB1.out.size HL.out.2 HNS.out (by omega)).mono ?_
          intro e w2 h2
          obtain ⟨a2, rfl, hs2, hb2, hn2⟩ := h2.each
          have HB2 := hide (HB1.out.trans (hb2.mono HB1.out.size))
          have HS2 := hide hs2
          have HV2 := hide ((HS1.out.kept hb2).mono hb2.size)
          have HN2 := hide hn2
          clear h2 hs2 hb2 hn2 HS1 HB1 HD0 HNS
          go_wp2_with fail
          refine (zzStateOf_on w2.heap.size a1 a2 lb lb lb ua ub w2 HV2.out HS2.out (Nat.le_refl _) HL.out.1 HL.out.2 HN1.out HN2.out (by omega)).mono ?_
          rintro e w3 ⟨a3, rfl, HB3⟩
          go_wp2_with fail
          refine (zzStateOf_on w2.heap.size a2 a1 lb lb lb ub ua w3 (HS2.out.kept HB3.out) (HV2.out.kept HB3.out) HB3.out.size HL.out.2 HL.out.1 HN2.out HN1.out (by omega)).mono ?_
          rintro e w4 ⟨a4, rfl, HB4⟩
          have HB24 := hide (HB3.out.trans (HB4.out.mono HB3.out.size))
          clear HB3 HB4
          obtain ⟨W5, hW5⟩ : ∃ W5, W5 = (w4.alloc (.cells (Array.replicate lb (.int .i64 0)) 2)).alloc (.cells (Array.replicate lb (.int .i64 0)) 2) := ⟨_, rfl⟩
          have HB25 : Hid (Below w2.heap.size w2 W5) := by
            rw [hW5]
            exact (HB24.out.alloc HB24.out.size _).alloc (Nat.le_trans HB24.out.size (by simp)) _
          have HZ1 : Hid (SliceAt W5.heap.size W5 (some ⟨w4.heap.size, 0, none⟩) ((List.replicate lb 0).map (Value.int .i64))) := by
            rw [hW5]
            exact SliceAt.of_row ((zeros_row w4 2 lb .i64).alloc _)
          have HZ2 : Hid (SliceAt W5.heap.size W5 (some ⟨w4.heap.size + 1, 0, none⟩) ((List.replicate lb 0).map (Value.int .i64))) := by
            rw [hW5]
            have h := zeros_row (w4.alloc (.cells (Array.replicate lb (.int .i64 0)) 2)) 2 lb .i64
            show SliceAt _ _ _ _
            simpa using SliceAt.of_row h
          have HW5 := hide hW5
          have HAp := hide (zzApply_on W5.heap.size a1 a2 lb lb lb ua ub W5 (some ⟨w4.heap.size, 0, none⟩) (some ⟨w4.heap.size + 1, 0, none⟩) HZ1.out HZ2.out ((HV2.out.kept HB25.out).mono HB25.out.size) ((HS2.out.kept HB25.out).mono HB25.out.size) (Nat.le_refl _) HL.out.1 HL.out.2 HN1.out HN2.out (by omega))
          clear hW5
          go_wp2_with fail
          rw [← HW5.out]
          refine HAp.out.mono ?_
          rintro e w6 ⟨no, a6, rfl, HB6⟩
          have HBe := hide ((HB2.out.trans (HB25.out.mono HB2.out.size)).trans (HB6.out.mono (Nat.le_trans HB2.out.size HB25.out.size)))
          clear HAp HZ1 HZ2 HB25 HB6
          go_wp2_with fail
          go_ret
          exact ⟨rfl, HBe.out⟩
        · have hpp' : pa = false ∨ (pa = true ∧ pb = false) := by cases pa <;> cases pb <;> simp_all
          obtain ⟨xa, hxa⟩ : ∃ xa, xa = stz pa ua := ⟨_, rfl⟩
          obtain ⟨xb, hxb⟩ : ∃ xb, xb = stz pb ub := ⟨_, rfl⟩
          have HLx : Hid (xa.length = lb ∧ xb.length = lb) := ⟨by rw [hxa, stz_length, HL.out.1], by rw [hxb, stz_length, HL.out.2]⟩
          have HRx : Hid ((∀ x ∈ xa, 0 ≤ x ∧ x < 256) ∧ (∀ x ∈ xb, 0 ≤ x ∧ x < 256)) := ⟨by rw [hxa]; exact stz_range HRG.out.1, by rw [hxb]; exact stz_range HRG.out.2⟩
          have HXa := hide hxa
          have HXb := hide hxb
          clear hpp hxa hxb
          rcases hpp' with h1 | ⟨h1, h2⟩
          all_goals
            subst h1
            try subst h2
            go_enter Try.func11, Try.ntmps11
            go_wp2_with (go_at_call 46; refine HZ.out.mono ?_; rintro e w' ⟨⟨x, rfl⟩, hw⟩; subst w')
            · go_ret
              exact ⟨rfl, Below.refl _ _⟩
            refine HC1.out.mono ?_
            intro e w1 h1
            obtain ⟨a1, rfl, hs1, hb1, hn1⟩ := h1.each
            have HB1 := hide hb1
            have HS1 := hide hs1
            have HN1 := hide hn1
            clear h1 hs1 hb1 hn1 HC1 HZ
            go_wp2_with fail
            refine (clone40 w.heap.size bw lb cb ub w1 (HD0.out w1 HB1.out) HB1.out.size HL.out.2 HNS.out (by omega)).mono ?_
            intro e w2 h2
            obtain ⟨a2, rfl, hs2, hb2, hn2⟩ := h2.each
            have HB2 := hide (HB1.out.trans (hb2.mono HB1.out.size))
            have HS2 := hide hs2
            have HV2 := hide ((HS1.out.kept hb2).mono hb2.size)
            have HN2 := hide hn2
            clear h2 hs2 hb2 hn2 HS1 HB1 HD0 HNS
            go_wp2_with fail
            refine (zzStateOf_off w2.heap.size a1 a2 lb lb lb ua ub _ _ w2 HV2.out HS2.out (Nat.le_refl _) HL.out.1 HL.out.2 HN1.out HN2.out (by omega) (by simp)).mono ?_
            rintro e w3 ⟨a3, rfl, HS3, HB3⟩
            rw [← HXa.out, ← HXb.out] at HS3
            go_wp2_with fail
            refine (zzStateOf_off w2.heap.size a2 a1 lb lb lb ub ua _ _ w3 (HS2.out.kept HB3.out) (HV2.out.kept HB3.out) HB3.out.size HL.out.2 HL.out.1 HN2.out HN1.out (by omega) (by simp)).mono ?_
            rintro e w4 ⟨a4, rfl, HS4, HB4⟩
            rw [← HXa.out, ← HXb.out] at HS4
            have HB24 := hide (HB3.out.trans (HB4.out.mono HB3.out.size))
            have HS3' := hide ((HS3.out.kept HB4.out).mono HB4.out.size)
            clear HB3 HB4 HS3
            obtain ⟨W5, hW5⟩ : ∃ W5, W5 = (w4.alloc (.cells (Array.replicate lb (.int .i64 0)) 2)).alloc (.cells (Array.replicate lb (.int .i64 0)) 2) := ⟨_, rfl⟩
            have HB45 : Hid (Below w4.heap.size w4 W5) := by
              rw [hW5]
              exact ((Below.refl _ _).alloc (Nat.le_refl _) _).alloc (by simp) _
            have HB25 : Hid (Below w2.heap.size w2 W5) := HB24.out.trans (HB45.out.mono HB24.out.size)
            have HZ1 : Hid (SliceAt W5.heap.size W5 (some ⟨w4.heap.size, 0, none⟩) ((List.replicate lb 0).map (Value.int .i64))) := by
              rw [hW5]
              exact SliceAt.of_row ((zeros_row w4 2 lb .i64).alloc _)
            have HZ2 : Hid (SliceAt W5.heap.size W5 (some ⟨w4.heap.size + 1, 0, none⟩) ((List.replicate lb 0).map (Value.int .i64))) := by
              rw [hW5]
              have h := zeros_row (w4.alloc (.cells (Array.replicate lb (.int .i64 0)) 2)) 2 lb .i64
              show SliceAt _ _ _ _
              simpa using SliceAt.of_row h
            have HW5 := hide hW5
            clear hW5
            go_wp2_with fail
            rw [← HW5.out]
            refine (zzApply_off W5.heap.size a1 a2 lb lb lb ua ub _ _ W5 (some ⟨w4.heap.size, 0, none⟩) (some ⟨w4.heap.size + 1, 0, none⟩) HZ1.out HZ2.out ((HV2.out.kept HB25.out).mono HB25.out.size) ((HS2.out.kept HB25.out).mono HB25.out.size) (Nat.le_refl _) HL.out.1 HL.out.2 HN1.out HN2.out (by omega) (by simp)).mono ?_
            rintro e w6 ⟨no, a6, rfl, HS6, HB6⟩
            rw [← HXa.out, ← HXb.out] at HS6
            have HBe := hide ((HB2.out.trans (HB25.out.mono HB2.out.size)).trans (HB6.out.mono (Nat.le_trans HB2.out.size HB25.out.size)))
            have HB46 := hide (HB45.out.trans (HB6.out.mono HB45.out.size))
            have HT3 := hide ((HS3'.out.kept HB46.out).mono HB46.out.size)
            have HT4 := hide ((HS4.out.kept HB46.out).mono HB46.out.size)
            clear HZ1 HZ2 HB25 HB6 HS3' HS4 HB45 HB46 HB24 hmk
            go_wp2_with fail
            go_loopw [19] (fun i wr => ∃ k : Nat, k ≤ lb ∧ i = .int .i64 k ∧ Hid (Below w6.heap.size w6 wr)) (fun i _ => lb - (intOf i).toNat)
            case atStart => exact ⟨0, Nat.zero_le _, rfl, Below.refl _ _⟩
            case round =>
              obtain ⟨k, hk, rfl, HBr⟩ := hrel
              have HBf := hide (HBe.out.trans (HBr.out.mono HBe.out.size))
              by_cases hlt : k < lb
              · have hka : k < xa.length := by rw [HLx.out.1]; exact hlt
                have hkb : k < xb.length := by rw [HLx.out.2]; exact hlt
                have hk1 : k < (ors xa xb).length := by rw [ors_length HLx.out.1 HLx.out.2]; exact hlt
                have hk2 : k < (ors xb xa).length := by rw [ors_length HLx.out.2 HLx.out.1]; exact hlt
                have hk3 : k < (stjs xa xb).length := by rw [stjs_length HLx.out.1 HLx.out.2]; exact hlt
                obtain ⟨b3, o3, e3, _, k3⟩ := (HT3.out.kept HBr.out).cell (i := k) (by simpa using hk1)
                obtain ⟨b4, o4, e4, _, k4⟩ := (HT4.out.kept HBr.out).cell (i := k) (by simpa using hk2)
                obtain ⟨b6, o6, e6, _, k6⟩ := (HS6.out.kept HBr.out).cell (i := k) (by simpa using hk3)
                subst e3 e4 e6
                rw [getD_map_int hk1 (ors_get hk1 hka hkb)] at k3
                rw [getD_map_int hk2 (ors_get hk2 hkb hka), bits_or_comm] at k4
                rw [getD_map_int hk3 (stjs_get hk3 hka hkb)] at k6
                have hx := HRx.out.1 _ (List.getElem_mem hka)
                have hy := HRx.out.2 _ (List.getElem_mem hkb)
                have hin := stj_inexact xa[k] xb[k]
                have hzz : bits .or .u8 xa[k] xb[k] = 0 → stj xa[k] xb[k] = 0 := fun h => stj_zero hx.1 hx.2 hy.1 hy.2 h
                obtain ⟨z, hz⟩ : ∃ z, z = bits .or .u8 xa[k] xb[k] := ⟨_, rfl⟩
                obtain ⟨t, ht⟩ : ∃ t, t = stj xa[k] xb[k] := ⟨_, rfl⟩
                rw [← hz] at k3 k4 hin hzz
                rw [← ht] at k6 hin hzz
                have hk0 : (0 : Int) ≤ (k : Int) := Int.natCast_nonneg _
                have hkl : (k : Int) < (lb : Int) := by omega
                clear hx hy hz ht hka hkb hk1 hk2 hk3
                by_cases hz0 : z = 0
                · have ht0 := hzz hz0
                  subst hz0
                  subst ht0
                  clear hzz hin
                  have hq : (bits .and .u8 0 2 != 0) = false := by decide
                  go_wp2_with fail
                  go_quiet (fail)
                  go_wp2_with fail
                  go_quiet (fail)
                  go_wp2_with fail
                  go_roundw
                  case rel => exact ⟨k + 1, by omega, by go_num, below_drewN HBr.out _⟩
                  case measure => simp [intOf]; omega
                · have hz1 : (z == 0) = false := by simpa using hz0
                  clear hzz hz0
                  obtain ⟨q, hq⟩ : ∃ q, q = (t == 2) := ⟨_, rfl⟩
                  rw [← hq] at hin
                  have hq' := hq.symm
                  have hin' := hin.symm
                  clear hq hin
                  cases q
                  all_goals
                    go_wp2_with fail
                    go_quiet (fail)
                    go_wp2_with fail
                    go_quiet (fail)
                    go_wp2_with fail
                    go_roundw
                    case rel => exact ⟨k + 1, by omega, by go_num, below_drewN HBr.out _⟩
                    case measure => simp [intOf]; omega
              · go_wp2_with fail
                go_ret
                exact ⟨rfl, HBf.out⟩
      · have hne : ((lb : Int) != (la : Int)) = true := by simp; omega
        clear hv hs hlv hls hnv hns ra rb
        go_enter Try.func11, Try.ntmps11
        go_wp2_with (go_at_call 46; refine HZ.out.mono ?_; rintro e w' ⟨⟨x, rfl⟩, hw⟩; subst w')
        all_goals
          go_ret
          exact ⟨rfl, Below.refl _ _⟩
    · clear hv hs hlv hls hnv hns ra rb
      go_enter Try.func11, Try.ntmps11
      go_wp2_with (go_at_call 46; refine HZ.out.mono ?_; rintro e w' ⟨⟨x, rfl⟩, hw⟩; subst w')
      all_goals
        go_ret
        exact ⟨rfl, Below.refl _ _⟩
  · clear hv hs hlv hls hnv hns ra rb
    go_enter Try.func11, Try.ntmps11
    go_wp2_with (go_at_call 46; refine HZ.out.mono ?_; rintro e w' ⟨⟨x, rfl⟩, hw⟩; subst w')
    all_goals
      go_ret
      exact ⟨rfl, Below.refl _ _⟩

end Go.Proofs.Qxb6001672a
