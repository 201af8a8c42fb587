/-
  Seat b6000458a: FnWithinMaxLinksFarthestNeedsALongerWay, walked.
-/
import Derived.Test.Qxb6000458aFronts
namespace Go.Proofs.Qxb6000458a
open Go.RowKit Go.WideMaps Go.Maps

/-- behind a question over answers of its own -/
theorem after_way {w x w' : World} {B N b m : Nat} {f : Lit → Option Value} {ls : List (ByteArray × ByteArray)} (hF : FileAt B x N ls) (hM : MapIs x Try.prog 9 b m f) (hBe : Below w.heap.size w x) (hg : (x.alloc (.map #[] 0)).grownBy w' (some x.heap.size)) :
    FileAt B w' N ls ∧ MapIs w' Try.prog 9 b m f ∧ Below w.heap.size w w' := by
  have hs := hBe.size
  have hlt := hM.lt
  have ha : ∀ k, k ≤ x.heap.size → Below k x w' := fun k hk => ((Below.refl k x).alloc hk _).grown hg (by simp; omega) (fun q e => by cases e; exact hk)
  exact ⟨hF.kept (ha B hF.hi), hM.kept ((ha x.heap.size (Nat.le_refl _)).block b hlt), hBe.trans (ha _ hs)⟩

set_option maxRecDepth 100000 in
set_option maxHeartbeats 1600000 in
theorem far_walk (u : ByteArray) (a : Option Addr) (len cap : Nat) (ls : List (ByteArray × ByteArray)) (w : World) (hu : u.size ≤ maxLen) (hl : IsLines w a len cap ls) (hsz : ∀ p ∈ ls, p.1.size ≤ maxLen ∧ p.2.size ≤ maxLen) :
    Calls Try.prog 5 #[.string u, .slice a len cap] w fun e w' => e = .returned (.bool true) ∧ Below w.heap.size w w' := by
  have HZ := hide (zzb20 u hu a len cap ls w hl)
  have HY := hide (lineBytes_any a len cap ls w hl)
  have hll : ls.length = len := hl.1
  have hcap : len ≤ 9223372036854775807 := by have h2 := hl.2.1; have h3 := hl.2.2.1; unfold maxLen at h3; omega
  have hu' : u.size ≤ 9223372036854775807 := by unfold maxLen at hu; omega
  have HP : Hid (∀ x, x ∈ pool u ls → x.size ≤ maxLen) := fun x hx => pool_size hu hsz hx
  by_cases h4 : len ≤ 4096
  · have hls : ls.length ≤ 4096 := by omega
    have HB := hide (build_any a len cap ls w hl h4 hsz)
    have HW := hide (fun B N x (hF : FileAt B x N ls) => zzWithin_any B N ls u x hF hls hu hsz)
    have HL := hide (fun B N A x s l (hBA : B ≤ A) (hl4 : l ≤ 4096) (hs : s ∈ pool u ls) (hF : FileAt B x N ls) (hA : AnsAt x A u ls) => zzWay_any B N A u ls hls HP.out hBA s l x hl4 hs hF hA)
    have hup : u ∈ pool u ls := List.mem_cons_self
    -- the plain law, parted ahead of the walk
    obtain ⟨R, hR⟩ : ∃ R, R = (Pure.within ls u).1 := ⟨_, rfl⟩
    obtain ⟨F, hF⟩ : ∃ F, F = (Pure.within ls u).2 := ⟨_, rfl⟩
    have HRF : Hid (R = (Pure.within ls u).1 ∧ F = (Pure.within ls u).2) := ⟨hR, hF⟩
    have hfar : 0 < F.length → Pure.lw ls 10 u = true := fun q => Pure.far_lw ls u (fun e => by rw [hF, e] at q; simp at q)
    have hone : Pure.lw ls 1 u = false → R = [u] ∧ F = [] := fun q => by rw [hR, hF, Pure.alone ls u q]; exact ⟨rfl, rfl⟩
    clear hl hR hF hu hsz hll
    by_cases hus : u.size ≤ 1048576
    · go_enter Try.func5, Try.ntmps5
      go_wp2_with (first
        | (go_at_call 20; refine HZ.out.mono ?_; rintro e w' ⟨⟨x, rfl⟩, hw⟩; subst w')
        | (go_at_call 12; refine HY.out.mono ?_; rintro e w' ⟨⟨x, rfl⟩, hw⟩; subst w'))
      · go_ret
        exact ⟨rfl, Below.refl _ _⟩
      · go_ret
        exact ⟨rfl, Below.refl _ _⟩
      refine HB.out.mono ?_
      rintro e w1 ⟨rfl, v1, D1, hB1⟩
      have HB1 := hide hB1
      have HF1 := hide (hB1.fileAt hls)
      clear hB1
      go_wp2_with fail
      refine (HW.out _ _ _ HF1.out).mono ?_
      rintro e w2 ⟨vF, rfl, hM2, hO2, hb2⟩
      obtain ⟨av, cv, hvF, _⟩ := strings_shape hO2
      rw [← HRF.out.2] at hvF
      subst hvF
      have HM2 : Hid (MapIs w2 Try.prog 9 w1.heap.size R.length (setF R)) := by rw [HRF.out.1]; exact hM2
      have HF2 := hide (HF1.out.kept hb2)
      have HBe := hide (HB1.out.below.trans (hb2.mono HB1.out.below.size))
      have hw2 : w1.heap.size < w2.heap.size := hM2.lt
      clear hM2 hO2 hb2
      have HLN : Hid (∀ (l : Nat) (x : World), l ≤ 9 → FileAt w1.heap.size x w.heap.size ls → Calls Try.prog 21 #[.pointer (some ⟨w.heap.size + 3, 0, none⟩), .string u, .int .i64 l, .map (some (w.heap.size + 4)), .map (some x.heap.size)] (x.alloc (.map #[] 0)) (fun e w' => e = .returned (.bool (Pure.lw ls (l + 1) u)) ∧ (x.alloc (.map #[] 0)).grownBy w' (some x.heap.size))) := by
        intro l x h9 hFx
        refine (HL.out w1.heap.size w.heap.size x.heap.size (x.alloc (.map #[] 0)) u (l : Int) hFx.hi (by omega) hup (hFx.kept ((Below.refl _ _).alloc hFx.hi _)) (AnsAt.made x u ls)).mono ?_
        rintro e w' ⟨e1, e2, _⟩
        refine ⟨?_, e2⟩
        rw [e1, show ((l : Int) + 1).toNat = l + 1 by omega]
      have HL9 : Hid (∀ (x : World), FileAt w1.heap.size x w.heap.size ls → Calls Try.prog 21 #[.pointer (some ⟨w.heap.size + 3, 0, none⟩), .string u, .int .i64 9, .map (some (w.heap.size + 4)), .map (some x.heap.size)] (x.alloc (.map #[] 0)) (fun e w' => e = .returned (.bool (Pure.lw ls 10 u)) ∧ (x.alloc (.map #[] 0)).grownBy w' (some x.heap.size))) := fun x hx => HLN.out 9 x (by omega) hx
      have HL0 : Hid (∀ (x : World), FileAt w1.heap.size x w.heap.size ls → Calls Try.prog 21 #[.pointer (some ⟨w.heap.size + 3, 0, none⟩), .string u, .int .i64 0, .map (some (w.heap.size + 4)), .map (some x.heap.size)] (x.alloc (.map #[] 0)) (fun e w' => e = .returned (.bool (Pure.lw ls 1 u)) ∧ (x.alloc (.map #[] 0)).grownBy w' (some x.heap.size))) := fun x hx => HLN.out 0 x (by omega) hx
      have hup' : inR [u] u = true := by simp [inR]
      clear HLN HL HW HB HZ HY HB1 HF1 HRF HP hup
      by_cases hF0 : 0 < F.length
      · have e10 := hfar hF0
        have e1 : Pure.lw ls 1 u = true := by
          cases q : Pure.lw ls 1 u
          · have := (hone q).2
            rw [this] at hF0
            simp at hF0
          · rfl
        rw [e10] at HL9
        rw [e1] at HL0
        clear hfar hone e10 e1
        go_wp2_with (go_at_call 22; refine (newAnswers_any _).mono ?_; rintro e w' ⟨rfl, rfl⟩)
        refine (HL9.out _ HF2.out).mono ?_
        rintro e w3 ⟨rfl, hg3⟩
        obtain ⟨hF3, hM3, hBe3⟩ := after_way HF2.out HM2.out HBe.out hg3
        have HF3 := hide hF3
        have HBe3 := hide hBe3
        have HM3 := hide hM3
        clear hg3 hF3 hM3 hBe3
        go_wp2_with (go_at_call 22; refine (newAnswers_any _).mono ?_; rintro e w' ⟨rfl, rfl⟩)
        refine (HL0.out _ HF3.out).mono ?_
        rintro e w4 ⟨rfl, hg4⟩
        obtain ⟨_, _, hBe4⟩ := after_way HF3.out HM3.out HBe3.out hg4
        have HBe4 := hide hBe4
        clear hg4 hBe4
        go_wp2_with fail
        go_ret
        exact ⟨rfl, HBe4.out⟩
      · cases e1 : Pure.lw ls 1 u with
        | true =>
          rw [e1] at HL0
          clear hfar hone e1
          go_wp2_with (go_at_call 22; refine (newAnswers_any _).mono ?_; rintro e w' ⟨rfl, rfl⟩)
          refine (HL0.out _ HF2.out).mono ?_
          rintro e w4 ⟨rfl, hg4⟩
          obtain ⟨_, _, hBe4⟩ := after_way HF2.out HM2.out HBe.out hg4
          have HBe4 := hide hBe4
          clear hg4 hBe4
          go_wp2_with fail
          go_ret
          exact ⟨rfl, HBe4.out⟩
        | false =>
          obtain ⟨hR1, hF1⟩ := hone e1
          rw [e1] at HL0
          subst hR1
          subst hF1
          clear hfar hone e1
          go_wp2_with (go_at_call 22; refine (newAnswers_any _).mono ?_; rintro e w' ⟨rfl, rfl⟩)
          refine (HL0.out _ HF2.out).mono ?_
          rintro e w4 ⟨rfl, hg4⟩
          obtain ⟨_, hM4, hBe4⟩ := after_way HF2.out HM2.out HBe.out hg4
          have HBe4 := hide hBe4
          have hlk := set_look hM4 (s := u) (by unfold maxLen; omega) Try.underlying29
          rw [hup'] at hlk
          have hln := hM4.len Try.underlying29
          clear hg4 hBe4 hM4
          go_wp2_with fail
          go_ret
          exact ⟨rfl, HBe4.out⟩
    · go_enter Try.func5, Try.ntmps5
      go_wp2_with (first
        | (go_at_call 20; refine HZ.out.mono ?_; rintro e w' ⟨⟨x, rfl⟩, hw⟩; subst w')
        | (go_at_call 12; refine HY.out.mono ?_; rintro e w' ⟨⟨x, rfl⟩, hw⟩; subst w'))
      all_goals
        go_ret
        exact ⟨rfl, Below.refl _ _⟩
  · go_enter Try.func5, Try.ntmps5
    go_wp2_with (first
      | (go_at_call 20; refine HZ.out.mono ?_; rintro e w' ⟨⟨x, rfl⟩, hw⟩; subst w')
      | (go_at_call 12; refine HY.out.mono ?_; rintro e w' ⟨⟨x, rfl⟩, hw⟩; subst w'))
    all_goals
      go_ret
      exact ⟨rfl, Below.refl _ _⟩

end Go.Proofs.Qxb6000458a
