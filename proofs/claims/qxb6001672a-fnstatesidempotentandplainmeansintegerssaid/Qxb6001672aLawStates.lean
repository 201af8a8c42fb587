/-
  Seat b6001672a: FnStatesIdempotentAndPlainMeansIntegers, walked.
-/
import Derived.Test.Qxb6001672aStates
namespace Go.Proofs.Qxb6001672a
open Go.RowKit

/-- it returned some bool (behind a name that the walk does not open) -/
def ABool (e : Ending) : Prop := ∃ x : Bool, e = .returned (.bool x)

set_option maxHeartbeats 800000 in
theorem zzb14 (a1 a2 : Option Addr) (l1 c1 l2 c2 : Nat) (b : Bool) (w : World) (h1 : l1 ≤ 9223372036854775807) (h2 : l2 ≤ 9223372036854775807) :
    Calls Try.prog 14 #[.slice a1 l1 c1, .slice a2 l2 c2, .bool b] w fun e w' => ABool e ∧ w' = w := by
  go_enter Try.func14, Try.ntmps14
  go_wp2_with fail
  all_goals
    go_ret
    exact ⟨⟨_, rfl⟩, rfl⟩

/-- a clone, both ways in one -/
theorem ClonePost.both {w w' : World} {E : TypeId} {len : Nat} {xs : List Value} {e : Ending} (h : ClonePost w E len xs e w') :
    ∃ a' c', e = .returned (.slice a' len c') ∧ len ≤ c' ∧ SliceAt w'.heap.size w' a' xs ∧ Below w.heap.size w w' ∧ (a' = none → len = 0) := by
  rcases h with ⟨rfl, rfl, rfl, rfl⟩ | ⟨rfl, h1, h2⟩
  · exact ⟨none, 0, rfl, Nat.le_refl _, Or.inl rfl, Below.refl _ _, fun _ => rfl⟩
  · exact ⟨_, _, rfl, Nat.le_refl _, SliceAt.of_row h1, h2, fun q => by cases q⟩

theorem stz_get {p : Bool} {us : List Int} {k : Nat} (hk : k < us.length) (hk' : k < (stz p us).length) : (stz p us)[k] = if p then 0 else us[k] := by
  cases p <;> simp [stz]

/-- the second states' slice, or the first's, aw a slice -/
theorem StPost.slice {w w' : World} {B g : Nat} {vals : Value} {sa : Option Addr} {us : List Int} {p : Bool} {e : Ending} (h : StPost w B g vals sa us p e w') :
    ∃ a', e = .returned (.slice a' us.length us.length) ∧ SliceAt w'.heap.size w' a' ((stz p us).map (Value.int .u8)) ∧ (∀ x, a' = some x → w.heap.size ≤ x.block) ∧ IV w' B g vals sa (stz p us) p ∧ KB sa w w' := by
  obtain ⟨a', e1, h2, h3, h4⟩ := h
  refine ⟨a', e1, ?_, ?_, h3, h4⟩
  · rcases h2 with ⟨_, q⟩ | ⟨g', q1, q2, q3⟩
    · left
      rw [q]
      cases p <;> rfl
    · rw [q1]
      exact SliceAt.of_row q3
  · intro x hx
    rcases h2 with ⟨q, _⟩ | ⟨g', q1, q2, q3⟩
    · rw [q] at hx
      cases hx
    · rw [q1] at hx
      cases hx
      exact q2

/-- a slice is kept where only the block of sa turned, and is another -/
theorem SliceAt.keptKB {B : Nat} {w x : World} {a sa : Option Addr} {xs : List Value} (h : SliceAt B w a xs) (hB : B ≤ w.heap.size) (hk : KB sa w x) (hne : ∀ y z, a = some y → sa = some z → z.block ≠ y.block) : SliceAt B x a xs := by
  rcases h with h | ⟨b, off, e, hb, hc⟩
  · exact Or.inl h
  · refine Or.inr ⟨b, off, e, hb, fun i hi => ?_⟩
    rw [World.cell?_of_block (w := w) (hk.others b (by omega) (fun z hz => hne _ z e hz))]
    exact hc i hi

theorem IV.lt {w : World} {B g : Nat} {vals : Value} {sa : Option Addr} {us : List Int} {p : Bool} (h : IV w B g vals sa us p) : ∀ x, sa = some x → x.block < w.heap.size := by
  intro x hx
  rcases h.st with ⟨e, _⟩ | ⟨gs, e, _, _, h2⟩
  · rw [e] at hx
    cases hx
  · rw [e] at hx
    cases hx
    exact h2.lt

set_option maxRecDepth 100000 in
set_option maxHeartbeats 3200000 in
theorem states_walk (av aw : Option Addr) (lv cv ls cs : Nat) (zs us : List Int) (p : Bool) (w : World)
    (hv : SliceAt w.heap.size w av (zs.map (Value.int .i64))) (hs : SliceAt w.heap.size w aw (us.map (Value.int .u8))) (hlv : zs.length = lv) (hls : us.length = ls) (hnv : av = none → lv = 0) (hns : aw = none → ls = 0) (m1 : lv ≤ 9223372036854775807) (m2 : ls ≤ 9223372036854775807) :
    Calls Try.prog 5 #[.slice av lv cv, .slice aw ls cs, .bool p] w fun e w' => e = .returned (.bool true) ∧ Below w.heap.size w w' := by
  have HZ := hide (zzb14 av aw lv cv ls cs p w m1 m2)
  by_cases q1 : lv ≤ 65536
  · by_cases q2 : ls ≤ 65536
    · by_cases q3 : 8 * lv + ls ≤ 1048576
      · by_cases q4 : lv = ls
        · subst q4
          have HC1 := hide (clone15 w.heap.size av lv cv zs w hv (Nat.le_refl _) hlv hnv (by omega))
          have HD0 : Hid (∀ x, Below w.heap.size w x → SliceAt w.heap.size x aw (us.map (Value.int .u8))) := fun x hx => hs.kept hx
          have HL := hide (And.intro hlv hls)
          have HNS := hide hns
          clear hv hs hlv hls hnv hns
          go_enter Try.func5, Try.ntmps5
          go_wp2_with (go_at_call 14; refine HZ.out.mono ?_; rintro e w' ⟨⟨x, rfl⟩, hw⟩; subst w')
          · go_ret
            exact ⟨rfl, Below.refl _ _⟩
          refine HC1.out.mono ?_
          intro e w1 h1
          obtain ⟨a1, c1, rfl, hc1, hs1, hb1, hn1⟩ := h1.both
          have HB1 := hide hb1
          have HS1 := hide hs1
          clear h1 hs1 hb1 hn1 HC1 HZ
          go_wp2_with fail
          refine (clone16 w.heap.size aw lv cs us w1 (HD0.out w1 HB1.out) HB1.out.size HL.out.2 HNS.out (by omega)).mono ?_
          intro e w2 h2
          obtain ⟨a2, c2, rfl, hc2, hs2, hb2, hn2⟩ := h2.both
          have HB2 := hide (HB1.out.trans (hb2.mono HB1.out.size))
          have HS2 := hide hs2
          have HV2 := hide ((HS1.out.kept hb2).mono hb2.size)
          have HN2 := hide hn2
          clear h2 hs2 hb2 hn2 HS1 HB1 HD0 HNS
          go_wp2_with fail
          refine (clone16 w2.heap.size a2 lv c2 us w2 HS2.out (Nat.le_refl _) HL.out.2 HN2.out (by omega)).mono ?_
          intro e w3 h3
          obtain ⟨a3, c3, rfl, hc3, hs3, hb3, hn3⟩ := h3.both
          have HB3 := hide (HB2.out.trans (hb3.mono HB2.out.size))
          have HS3 := hide hs3
          have HS2' := hide ((HS2.out.kept hb3).mono hb3.size)
          have HV3 := hide ((HV2.out.kept hb3).mono hb3.size)
          clear h3 hs3 hb3 hn3 HS2 HV2 HB2
          go_wp2_with fail
          refine (newInts_any w3.heap.size a1 a2 lv c1 lv c2 us p w3 HS2'.out (Nat.le_refl _) HL.out.2 HN2.out (by omega)).mono ?_
          rintro e w4 ⟨g, sa, rfl, hi4, hb4⟩
          have HI4 := hide hi4
          have HB4 := hide hb4
          clear hi4 hb4
          go_wp2_with fail
          refine (zzStates_any g w3.heap.size _ sa us p w4 HI4.out (by rw [HL.out.2]; omega)).mono ?_
          intro e w5 h5
          obtain ⟨a5, rfl, hs5, hge5, hi5, hk5⟩ := h5.slice
          rw [HL.out.2]
          have HI5 := hide hi5
          have HK5 := hide hk5
          have HS5 := hide hs5
          have HG5 := hide hge5
          clear h5 hi5 hk5 hs5 hge5
          go_wp2_with fail
          refine (zzStates_any g w3.heap.size _ sa (stz p us) p w5 HI5.out (by rw [stz_length, HL.out.2]; omega)).mono ?_
          intro e w6 h6
          obtain ⟨a6, rfl, hs6, hge6, hi6, hk6⟩ := h6.slice
          rw [stz_length, HL.out.2]
          rw [stz_stz] at hs6
          have HB46 : Hid (Below w3.heap.size w3 w6) := (HB4.out.trans (HK5.out.below HB4.out.size HI4.out.ge)).trans (hk6.below (Nat.le_trans HB4.out.size HK5.out.base.size) HI4.out.ge)
          have HS6 := hide hs6
          have HS5' := hide (HS5.out.keptKB (Nat.le_refl _) hk6 (fun y z hy hz => by have h1 := HG5.out y hy; have h2 := HI4.out.lt z hz; omega))
          have HV6 := hide (HV3.out.kept HB46.out)
          have HO6 := hide (HS3.out.kept HB46.out)
          have HSz : Hid (w3.heap.size ≤ w6.heap.size ∧ w5.heap.size ≤ w6.heap.size) := ⟨HB46.out.size, hk6.base.size⟩
          have HBe := hide (HB3.out.trans (HB46.out.mono HB3.out.size))
          clear h6 hi6 hk6 hs6 hge6 HS5 HS3 HV3 HI5 HK5 HI4 HB4 HG5 HB46 HB3 HS2' HN2
          go_wp2_with fail
          go_loopw [11] (fun i wr => ∃ k : Nat, k ≤ lv ∧ i = .int .i64 k ∧ Hid (Below w6.heap.size w6 wr)) (fun i _ => lv - (intOf i).toNat)
          case atStart => exact ⟨0, Nat.zero_le _, rfl, Below.refl _ _⟩
          case round =>
            obtain ⟨k, hk, rfl, HBr⟩ := hrel
            have HBf := hide (HBe.out.trans (HBr.out.mono HBe.out.size))
            by_cases hlt : k < lv
            · have hk1 : k < zs.length := by rw [HL.out.1]; exact hlt
              have hk2 : k < us.length := by rw [HL.out.2]; exact hlt
              have hk3 : k < (stz p us).length := by rw [stz_length]; exact hk2
              have HBr' := hide (HBr.out.mono HSz.out.1)
              obtain ⟨b1, o1, e1, _, k1⟩ := (HV6.out.kept HBr'.out).cell (i := k) (by simpa using hk1)
              obtain ⟨b3, o3, e3, _, k3⟩ := (HO6.out.kept HBr'.out).cell (i := k) (by simpa using hk2)
              obtain ⟨b5, o5, e5, _, k5⟩ := (HS5'.out.kept (HBr.out.mono HSz.out.2)).cell (i := k) (by simpa using hk3)
              obtain ⟨b6, o6, e6, _, k6⟩ := (HS6.out.kept HBr.out).cell (i := k) (by simpa using hk3)
              subst e1 e3 e5 e6
              obtain ⟨x1, hx1⟩ : ∃ x, zs[k] = x := ⟨_, rfl⟩
              obtain ⟨u, hu⟩ : ∃ x, us[k] = x := ⟨_, rfl⟩
              rw [getD_map_int hk1 hx1] at k1
              rw [getD_map_int hk2 hu] at k3
              rw [getD_map_int hk3 (stz_get hk2 hk3), hu] at k5 k6
              have hk0 : (0 : Int) ≤ (k : Int) := Int.natCast_nonneg _
              have hkl : (k : Int) < (lv : Int) := by omega
              clear hx1 hu hk1 hk2 hk3
              cases p with
              | false =>
                rw [if_neg (by simp)] at k5 k6
                go_wp2_with fail
                go_quiet (fail)
                go_wp2_with fail
                go_quiet (fail)
                go_wp2_with fail
                go_roundw
                case rel => exact ⟨k + 1, by omega, by go_num, below_drewN HBr.out _⟩
                case measure => simp [intOf]; omega
              | true =>
                rw [if_pos rfl] at k5 k6
                go_wp2_with fail
                go_quiet (fail)
                go_wp2_with fail
                go_quiet (fail)
                go_wp2_with fail
                go_region_held3 (fun x => x.cell? ⟨b1, o1 + k, none⟩ = some (.int .i64 x1) ∧ x.cell? ⟨b5, o5 + k, none⟩ = some (.int .u8 0)) (first | exact ⟨k1, k5⟩ | go_keep)
                  (first | (go_at_call 19; refine (zzIntTruth_any _ _ _).mono ?_; rintro e w' ⟨rfl, hw⟩; subst w'))
                by_cases hx0 : x1 = 0
                · subst hx0
                  rw [show itruth 0 0 = 0 from rfl]
                  go_wp2_with fail
                  go_roundw
                  case rel => exact ⟨k + 1, by omega, by go_num, (below_drewN HBr.out _).drew⟩
                  case measure => simp [intOf]; omega
                · have hx1 : (x1 != 0) = true := by simpa using hx0
                  have hx2 : (x1 == 0) = false := by simpa using hx0
                  rw [show itruth x1 0 = 2 by simp [itruth, hx0]]
                  go_wp2_with fail
                  go_roundw
                  case rel => exact ⟨k + 1, by omega, by go_num, (below_drewN HBr.out _).drew⟩
                  case measure => simp [intOf]; omega
            · go_wp2_with fail
              go_ret
              exact ⟨rfl, HBf.out⟩
        · have hne : ((lv : Int) != (ls : Int)) = true := by simp; omega
          clear hv hs hlv hls hnv hns
          go_enter Try.func5, Try.ntmps5
          go_wp2_with (go_at_call 14; refine HZ.out.mono ?_; rintro e w' ⟨⟨x, rfl⟩, hw⟩; subst w')
          all_goals
            go_ret
            exact ⟨rfl, Below.refl _ _⟩
      · clear hv hs hlv hls hnv hns
        go_enter Try.func5, Try.ntmps5
        go_wp2_with (go_at_call 14; refine HZ.out.mono ?_; rintro e w' ⟨⟨x, rfl⟩, hw⟩; subst w')
        all_goals
          go_ret
          exact ⟨rfl, Below.refl _ _⟩
    · clear hv hs hlv hls hnv hns
      go_enter Try.func5, Try.ntmps5
      go_wp2_with (go_at_call 14; refine HZ.out.mono ?_; rintro e w' ⟨⟨x, rfl⟩, hw⟩; subst w')
      all_goals
        go_ret
        exact ⟨rfl, Below.refl _ _⟩
  · clear hv hs hlv hls hnv hns
    go_enter Try.func5, Try.ntmps5
    go_wp2_with (go_at_call 14; refine HZ.out.mono ?_; rintro e w' ⟨⟨x, rfl⟩, hw⟩; subst w')
    all_goals
      go_ret
      exact ⟨rfl, Below.refl _ _⟩

end Go.Proofs.Qxb6001672a
