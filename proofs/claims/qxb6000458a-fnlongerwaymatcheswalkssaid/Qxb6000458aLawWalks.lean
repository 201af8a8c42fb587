/-
  Seat b6000458a: FnLongerWayMatchesWalks, walked.
-/
import Derived.Test.Qxb6000458aLawShort
import Derived.Test.Qxb6000458aWalkLen
namespace Go.Proofs.Qxb6000458a
open Go.RowKit Go.WideMaps Go.Maps

set_option maxRecDepth 100000 in
set_option maxHeartbeats 3200000 in
theorem walks_walk (u : ByteArray) (l : Int) (a : Option Addr) (len cap : Nat) (ls : List (ByteArray × ByteArray)) (w : World) (hu : u.size ≤ maxLen) (hlo : -9223372036854775808 ≤ l) (hl : IsLines w a len cap ls) (hsz : ∀ p ∈ ls, p.1.size ≤ maxLen ∧ p.2.size ≤ maxLen) :
    Calls Try.prog 6 #[.string u, .int .i64 l, .slice a len cap] w fun e w' => e = .returned (.bool true) ∧ Below w.heap.size w w' := by
  have HZ := hide (zzb23 u l hu a len cap ls w hl)
  have HY := hide (lineBytes_any a len cap ls w hl)
  have hll : ls.length = len := hl.1
  have hcap : len ≤ 9223372036854775807 := by have h2 := hl.2.1; have h3 := hl.2.2.1; unfold maxLen at h3; omega
  have hu' : u.size ≤ 9223372036854775807 := by unfold maxLen at hu; omega
  have HP : Hid (∀ x, x ∈ pool u ls → x.size ≤ maxLen) := fun x hx => pool_size hu hsz hx
  by_cases h4 : len ≤ 4096
  · have hls : ls.length ≤ 4096 := by omega
    by_cases hus : u.size ≤ 1048576
    · by_cases hl4 : l ≤ 4096
      · have HB := hide (build_any a len cap ls w hl h4 hsz)
        have HL := hide (fun B N A x (hBA : B ≤ A) (hF : FileAt B x N ls) (hA : AnsAt x A u ls) => zzWay_any B N A u ls hls HP.out hBA u l x hl4 List.mem_cons_self hF hA)
        have HN := hide (fun x (hx : Below w.heap.size w x) => nameList_any u a len cap ls x (isLines_kept hl hx) h4)
        have HT := hide (Pure.tied_names u ls)
        have hnl : (Pure.names u ls).length ≤ 8193 := by have := (Pure.names_spec u ls).2.2.2; omega
        have hn1 : 1 ≤ (Pure.names u ls).length := by
          obtain ⟨h, _⟩ := List.getElem?_eq_some_iff.1 HT.out.head
          omega
        have HEd := hide (fun B vn x (hx : Below w.heap.size w x) (hv : StrAt B x vn (Pure.names u ls)) (hB : B ≤ x.heap.size) => edgeEnds_any B vn (Pure.names u ls) a len cap ls x hv hB (by omega) (isLines_kept hl hx) h4)
        have hel : (Pure.edges (Pure.names u ls) ls).length = len := by simp [Pure.edges, hll]
        have HWl : Hid (∀ B (k : Nat) vm vr x (hm : RowAt B x vm ((Pure.edges (Pure.names u ls) ls).map fun e => (e.1 : Int))) (hr : RowAt B x vr ((Pure.edges (Pure.names u ls) ls).map fun e => (e.2 : Int))) (hB : B ≤ x.heap.size) (hk : k ≤ 4097), Calls Try.prog 24 #[.int .i64 (Pure.names u ls).length, vm, vr, .int .i64 k] x fun e w' => e = .returned (.bool (Pure.lw ls k u)) ∧ Below x.heap.size x w') := by
          intro B k vm vr x hm hr hB hk
          rw [← Pure.wol_lw HT.out k]
          exact wol_any B (Pure.names u ls).length k vm vr (Pure.edges (Pure.names u ls) ls) x hm hr hB hn1 (by omega) (by omega) (Pure.edges_lt HT.out) hk
        clear hl hu hsz hll
        go_enter Try.func6, Try.ntmps6
        go_wp2_with (first
          | (go_at_call 23; refine HZ.out.mono ?_; rintro e w' ⟨⟨x, rfl⟩, hw⟩; subst w')
          | (go_at_call 12; refine HY.out.mono ?_; rintro e w' ⟨⟨x, rfl⟩, hw⟩; subst w'))
        · go_ret
          exact ⟨rfl, Below.refl _ _⟩
        · go_ret
          exact ⟨rfl, Below.refl _ _⟩
        refine HB.out.mono ?_
        rintro e w1 ⟨rfl, v1, D1, hB1⟩
        have HF1 := hide (hB1.fileAt hls)
        have HBe1 := hide hB1.below
        clear hB1
        go_wp2_with (go_at_call 22; refine (newAnswers_any _).mono ?_; rintro e w' ⟨rfl, rfl⟩)
        refine (HL.out w1.heap.size w.heap.size w1.heap.size (w1.alloc (.map #[] 0)) (Nat.le_refl _) (HF1.out.kept ((Below.refl _ _).alloc (Nat.le_refl _) _)) (AnsAt.made w1 u ls)).mono ?_
        rintro e w2 ⟨rfl, hg2, _⟩
        have HBe2 : Hid (Below w.heap.size w w2) := (HBe1.out.alloc HBe1.out.size _).grown hg2 (by have := HBe1.out.size; simp; omega) (fun k e => by cases e; exact HBe1.out.size)
        clear hg2
        by_cases hneg : l < 0
        · have HE : Hid (Pure.lw ls (l + 1).toNat u = true) := by
            show _ = _
            rw [show (l + 1).toNat = 0 by omega]
            rfl
          rw [HE.out]
          go_wp2_with fail
          go_ret
          exact ⟨rfl, HBe2.out⟩
        · obtain ⟨k, hkl⟩ : ∃ k : Nat, l + 1 = k := ⟨(l + 1).toNat, by omega⟩
          have HK : Hid ((l + 1).toNat = k) := by show _ = _; omega
          rw [HK.out]
          go_wp2_with fail
          refine (HN.out _ HBe2.out).mono ?_
          rintro e w3 ⟨vn, rfl, hN3⟩
          have HS3 := hide (StrAt.of_owns hN3.own)
          have HBe3 := hide (HBe2.out.trans (hN3.below.mono HBe2.out.size))
          obtain ⟨avn, cvn, hvn⟩ := (StrAt.of_owns hN3.own).shape
          subst hvn
          clear hN3
          go_wp2_with fail
          refine (HEd.out _ _ _ HBe3.out HS3.out (Nat.le_refl _)).mono ?_
          rintro e w4 ⟨rfl, hE4⟩
          have HBe4 := hide (HBe3.out.trans (hE4.below.mono HBe3.out.size))
          have HR1 : Hid (RowAt w4.heap.size w4 (.slice (some ⟨w3.heap.size, 0, none⟩) ls.length ls.length) ((Pure.edges (Pure.names u ls) ls).map fun e => (e.1 : Int))) := by
            show RowAt _ _ _ _
            rw [← ends1_eq HT.out]
            exact rowAt_of hE4.r1 (ends1_len _ (Nat.le_refl _)) hE4.r1.lt
          have HR2 : Hid (RowAt w4.heap.size w4 (.slice (some ⟨w3.heap.size + 1, 0, none⟩) ls.length ls.length) ((Pure.edges (Pure.names u ls) ls).map fun e => (e.2 : Int))) := by
            show RowAt _ _ _ _
            rw [← ends2_eq HT.out]
            exact rowAt_of hE4.r2 (ends2_len _ (Nat.le_refl _)) hE4.r2.lt
          clear hE4
          have hk7 : k ≤ 4097 := by omega
          go_wp2_with fail
          refine (HWl.out _ k _ _ _ HR1.out HR2.out (Nat.le_refl _) hk7).mono ?_
          rintro e w5 ⟨rfl, hb5⟩
          have HBe5 := hide (HBe4.out.trans (hb5.mono HBe4.out.size))
          obtain ⟨b, hb⟩ : ∃ b, b = Pure.lw ls k u := ⟨_, rfl⟩
          rw [← hb]
          clear hb hb5
          go_wp2_with fail
          go_ret
          exact ⟨by simp, HBe5.out⟩
      · go_enter Try.func6, Try.ntmps6
        go_wp2_with (first
          | (go_at_call 23; refine HZ.out.mono ?_; rintro e w' ⟨⟨x, rfl⟩, hw⟩; subst w')
          | (go_at_call 12; refine HY.out.mono ?_; rintro e w' ⟨⟨x, rfl⟩, hw⟩; subst w'))
        all_goals
          go_ret
          exact ⟨rfl, Below.refl _ _⟩
    · go_enter Try.func6, Try.ntmps6
      go_wp2_with (first
        | (go_at_call 23; refine HZ.out.mono ?_; rintro e w' ⟨⟨x, rfl⟩, hw⟩; subst w')
        | (go_at_call 12; refine HY.out.mono ?_; rintro e w' ⟨⟨x, rfl⟩, hw⟩; subst w'))
      all_goals
        go_ret
        exact ⟨rfl, Below.refl _ _⟩
  · go_enter Try.func6, Try.ntmps6
    go_wp2_with (first
      | (go_at_call 23; refine HZ.out.mono ?_; rintro e w' ⟨⟨x, rfl⟩, hw⟩; subst w')
      | (go_at_call 12; refine HY.out.mono ?_; rintro e w' ⟨⟨x, rfl⟩, hw⟩; subst w'))
    all_goals
      go_ret
      exact ⟨rfl, Below.refl _ _⟩

end Go.Proofs.Qxb6000458a
