/-
  Seat b6000458a: FnWithinMaxLinksMatchesShortestWays, walked.
-/
import Derived.Test.Qxb6000458aFronts
import Derived.Test.Qxb6000458aShort
import Derived.Deep.QuietTactic
import Derived.BigQuiet
import Derived.WalkSmall
namespace Go.Proofs.Qxb6000458a
open Go.RowKit Go.WideMaps Go.Maps

theorem ends1_eq {u : ByteArray} {ls : List (ByteArray × ByteArray)} {ns : List ByteArray} (T : Pure.Tied u ls ns) : ends1 ns ls ls.length = (Pure.edges ns ls).map fun e => (e.1 : Int) := by
  unfold ends1 Pure.edges
  rw [List.take_length, List.map_map]
  exact List.map_congr_left fun p hp => Pure.idx_mem (T.ends p hp).1
theorem ends2_eq {u : ByteArray} {ls : List (ByteArray × ByteArray)} {ns : List ByteArray} (T : Pure.Tied u ls ns) : ends2 ns ls ls.length = (Pure.edges ns ls).map fun e => (e.2 : Int) := by
  unfold ends2 Pure.edges
  rw [List.take_length, List.map_map]
  exact List.map_congr_left fun p hp => Pure.idx_mem (T.ends p hp).2

theorem isLines_kept {w x : World} {a : Option Addr} {len cap : Nat} {ls : List (ByteArray × ByteArray)} (h : IsLines w a len cap ls) (hb : Below w.heap.size w x) : IsLines x a len cap ls := by
  obtain ⟨h1, h2, h3, h4⟩ := h
  refine ⟨h1, h2, h3, ?_⟩
  rcases h4 with h4 | ⟨b, off, e, hc⟩
  · exact Or.inl h4
  · refine Or.inr ⟨b, off, e, fun i hi => ?_⟩
    obtain ⟨c0, c1⟩ := hc i hi
    have hlt : b < w.heap.size := World.block_lt_of_cell? w _ c0
    exact ⟨(hb.cell hlt).trans c0, (hb.cell hlt).trans c1⟩

theorem names_from : ∀ (ls : List (ByteArray × ByteArray)) (ns : List ByteArray) (x : ByteArray), x ∈ ls.foldl Pure.addLine ns → x ∈ ns ∨ ∃ p ∈ ls, x = p.1 ∨ x = p.2
  | [], ns, x, h => Or.inl h
  | p :: ls, ns, x, h => by
    rw [List.foldl_cons] at h
    rcases names_from ls _ x h with h | ⟨q, hq, h⟩
    · unfold Pure.addLine at h
      rcases Pure.mem_addName.1 h with h | h
      · rcases Pure.mem_addName.1 h with h | h
        · exact Or.inl h
        · exact Or.inr ⟨p, by simp, Or.inl h⟩
      · exact Or.inr ⟨p, by simp, Or.inr h⟩
    · exact Or.inr ⟨q, by simp [hq], h⟩
theorem names_size {u : ByteArray} {ls : List (ByteArray × ByteArray)} (hu : u.size ≤ maxLen) (hsz : ∀ p ∈ ls, p.1.size ≤ maxLen ∧ p.2.size ≤ maxLen) {x : ByteArray} (h : x ∈ Pure.names u ls) : x.size ≤ maxLen := by
  rcases names_from ls [u] x h with h | ⟨p, hp, h | h⟩
  · simp at h
    rw [h]
    exact hu
  · rw [h]
    exact (hsz p hp).1
  · rw [h]
    exact (hsz p hp).2

theorem count_succ (p : Int → Bool) (d : List Int) {j : Nat} (h : j < d.length) : (d.take (j + 1)).countP p = (d.take j).countP p + if p (d.getD j 0) then 1 else 0 := by
  rw [List.take_succ_eq_append_getElem h, List.countP_append, List.countP_singleton, List.getD_eq_getElem?_getD, List.getElem?_eq_getElem h]
  rfl

/-- ALL THAT THE LAST PART READS -/
structure LInv (w5 : World) (b1 b4 : Nat) (ns R F : List ByteArray) (d : List Int) (vn vF : Value) : Prop where
  names : StrAt w5.heap.size w5 vn ns
  far : StrAt w5.heap.size w5 vF F
  set : MapIs w5 Try.prog 9 b1 R.length (setF R)
  row : RowIs w5 b4 3 (ints d)

theorem LInv.kept {w5 x : World} {b1 b4 : Nat} {ns R F : List ByteArray} {d : List Int} {vn vF : Value} (h : LInv w5 b1 b4 ns R F d vn vF) (hb : Below w5.heap.size w5 x) : LInv x b1 b4 ns R F d vn vF :=
  ⟨(h.names.kept hb).mono hb.size, (h.far.kept hb).mono hb.size, h.set.kept (hb.block _ h.set.lt), h.row.kept (hb.block _ h.row.lt)⟩

/-- a string of such a slice, read -/
theorem StrAt.cell {B : Nat} {w : World} {av : Option Addr} {n cv : Nat} {ns : List ByteArray} (h : StrAt B w (.slice av n cv) ns) {i : Nat} (hi : i < ns.length) : ∃ g, av = some ⟨g, 0, none⟩ ∧ n = ns.length ∧ w.cell? ⟨g, i, none⟩ = some (.string (ns.getD i ByteArray.empty)) := by
  rcases h with ⟨e, _⟩ | ⟨g, cap, e, _, h3⟩
  · rw [e] at hi
    simp at hi
  · simp only [Value.slice.injEq] at e
    exact ⟨g, e.1, e.2.1, h3 i hi⟩

set_option maxRecDepth 100000 in
set_option maxHeartbeats 3200000 in
theorem short_walk (u : ByteArray) (a : Option Addr) (len cap : Nat) (ls : List (ByteArray × ByteArray)) (w : World) (hu : u.size ≤ maxLen) (hl : IsLines w a len cap ls) (hsz : ∀ p ∈ ls, p.1.size ≤ maxLen ∧ p.2.size ≤ maxLen) :
    Calls Try.prog 3 #[.string u, .slice a len cap] w fun e w' => e = .returned (.bool true) ∧ Below w.heap.size w w' := by
  have HZ := hide (zzb11 u hu a len cap ls w hl)
  have HY := hide (lineBytes_any a len cap ls w hl)
  have hll : ls.length = len := hl.1
  have hcap : len ≤ 9223372036854775807 := by have h2 := hl.2.1; have h3 := hl.2.2.1; unfold maxLen at h3; omega
  have hu' : u.size ≤ 9223372036854775807 := by unfold maxLen at hu; omega
  have HP : Hid (∀ x, x ∈ pool u ls → x.size ≤ maxLen) := fun x hx => pool_size hu hsz hx
  by_cases h4 : len ≤ 4096
  · have hls : ls.length ≤ 4096 := by omega
    have HB := hide (build_any a len cap ls w hl h4 hsz)
    have HW := hide (fun B N x (hF : FileAt B x N ls) => zzWithin_any B N ls u x hF hls hu hsz)
    have HN := hide (fun x (hx : Below w.heap.size w x) => nameList_any u a len cap ls x (isLines_kept hl hx) h4)
    have HT := hide (Pure.tied_names u ls)
    have hnl : (Pure.names u ls).length ≤ 8193 := by have := (Pure.names_spec u ls).2.2.2; omega
    have hn1 : 1 ≤ (Pure.names u ls).length := by
      obtain ⟨h, _⟩ := List.getElem?_eq_some_iff.1 HT.out.head
      omega
    have HEd := hide (fun B vn x (hx : Below w.heap.size w x) (hv : StrAt B x vn (Pure.names u ls)) (hB : B ≤ x.heap.size) => edgeEnds_any B vn (Pure.names u ls) a len cap ls x hv hB (by omega) (isLines_kept hl hx) h4)
    have hel : (Pure.edges (Pure.names u ls) ls).length = len := by simp [Pure.edges, hll]
    have HSh := hide (fun B vm vr x hm hr hB => short_any B (Pure.names u ls).length vm vr (Pure.edges (Pure.names u ls) ls) x hm hr hB hn1 (by omega) (by omega) (Pure.edges_lt HT.out))
    have HLL := hide hll
    have HNS : Hid (∀ x, x ∈ Pure.names u ls → x.size ≤ maxLen) := fun x hx => names_size hu hsz hx
    clear hl hu hsz hll
    by_cases hus : u.size ≤ 1048576
    · go_enter Try.func3, Try.ntmps3
      go_wp2_with (first
        | (go_at_call 11; refine HZ.out.mono ?_; rintro e w' ⟨⟨x, rfl⟩, hw⟩; subst w')
        | (go_at_call 12; refine HY.out.mono ?_; rintro e w' ⟨⟨x, rfl⟩, hw⟩; subst w'))
      · go_ret
        exact ⟨rfl, Below.refl _ _⟩
      · go_ret
        exact ⟨rfl, Below.refl _ _⟩
      refine HB.out.mono ?_
      rintro e w1 ⟨rfl, v1, D1, hB1⟩
      have HF1 := hide (hB1.fileAt hls)
      have HBe1 := hide hB1.below
      clear hB1
      go_wp2_with fail
      refine (HW.out _ _ _ HF1.out).mono ?_
      rintro e w2 ⟨vF, rfl, hM2, hO2, hb2⟩
      have HM2 := hide hM2
      have HFa2 := hide (StrAt.of_owns hO2)
      have HBe2 := hide (HBe1.out.trans (hb2.mono HBe1.out.size))
      clear hM2 hO2 hb2
      go_wp2_with fail
      refine (HN.out _ HBe2.out).mono ?_
      rintro e w3 ⟨vn, rfl, hN3⟩
      have HN3 := hide hN3
      have HS3 := hide (StrAt.of_owns hN3.own)
      have HBe3 := hide (HBe2.out.trans (hN3.below.mono HBe2.out.size))
      obtain ⟨avn, cvn, hvn⟩ := (StrAt.of_owns hN3.own).shape
      subst hvn
      clear hN3
      go_wp2_with fail
      refine (HEd.out _ _ _ HBe3.out HS3.out (Nat.le_refl _)).mono ?_
      rintro e w4 ⟨rfl, hE4⟩
      have HE4 := hide hE4
      have HBe4 := hide (HBe3.out.trans (hE4.below.mono HBe3.out.size))
      have HR1 : Hid (RowAt w4.heap.size w4 (.slice (some ⟨w3.heap.size, 0, none⟩) ls.length ls.length) ((Pure.edges (Pure.names u ls) ls).map fun e => (e.1 : Int))) := by
        show RowAt _ _ _ _
        rw [← ends1_eq HT.out]
        exact rowAt_of hE4.r1 (ends1_len _ (Nat.le_refl _)) hE4.r1.lt
      have HR2 : Hid (RowAt w4.heap.size w4 (.slice (some ⟨w3.heap.size + 1, 0, none⟩) ls.length ls.length) ((Pure.edges (Pure.names u ls) ls).map fun e => (e.2 : Int))) := by
        show RowAt _ _ _ _
        rw [← ends2_eq HT.out]
        exact rowAt_of hE4.r2 (ends2_len _ (Nat.le_refl _)) hE4.r2.lt
      clear hE4
      go_wp2_with fail
      refine (HSh.out _ _ _ _ HR1.out HR2.out (Nat.le_refl _)).mono ?_
      rintro e w5 ⟨rfl, hD5⟩
      have HBe5 := hide (HBe4.out.trans (hD5.below.mono HBe4.out.size))
      have HLI : Hid (LInv w5 w1.heap.size w4.heap.size (Pure.names u ls) (Pure.within ls u).1 (Pure.within ls u).2 (Pure.dists (Pure.names u ls).length (Pure.edges (Pure.names u ls) ls)) (.slice avn (Pure.names u ls).length cvn) vF) := by
        have b45 := hD5.below
        have b34 := HE4.out.below
        have b23 := HN3.out.below
        have b35 : Below w3.heap.size w3 w5 := b34.trans (b45.mono b34.size)
        have b25 : Below w2.heap.size w2 w5 := b23.trans (b35.mono b23.size)
        exact ⟨(HS3.out.kept b35).mono b35.size, (HFa2.out.kept b25).mono b25.size, HM2.out.kept (b25.block _ HM2.out.lt), hD5.row⟩
      have HDl : Hid (∀ j, j < (Pure.names u ls).length → -1 ≤ (Pure.dists (Pure.names u ls).length (Pure.edges (Pure.names u ls) ls)).getD j 0 ∧ (Pure.dists (Pure.names u ls).length (Pure.edges (Pure.names u ls) ls)).getD j 0 ≤ 40960) := fun j hj => ⟨hD5.lo j hj, hD5.hi j hj⟩
      obtain ⟨avF, cvF, hvF⟩ := HLI.out.far.shape
      subst hvF
      -- letters for the plain functions
      have HI1 : Hid (∀ (j : Nat) (x : ByteArray), (Pure.names u ls)[j]? = some x → inR (Pure.within ls u).1 x = Pure.inb ((Pure.dists (Pure.names u ls).length (Pure.edges (Pure.names u ls) ls)).getD j 0)) := by
        intro j x hx
        rw [Bool.eq_iff_iff, inR_iff, (Pure.within_inv ls u).r, (Pure.dist_tells HT.out hx).1]
      have HI2 := hide (Pure.law1_within HT.out)
      have HI3 := hide (Pure.law1_exact HT.out)
      have HI4 := hide (fun x (hx : x ∈ (Pure.within ls u).2) => Pure.law1_each HT.out hx)
      have HI5 := hide (Pure.within_inv ls u).nf
      have hdl := Pure.dists_length (Pure.names u ls).length (Pure.edges (Pure.names u ls) ls)
      clear hD5 HE4 HN3 HS3 HFa2 HM2 HSh HEd HN HW HB HY HZ HF1 HBe1 HBe2 HBe3 HBe4 HR1 HR2 HT hel
      generalize Pure.dists (Pure.names u ls).length (Pure.edges (Pure.names u ls) ls) = d at *
      generalize Pure.within ls u = RF at *
      obtain ⟨R, F⟩ := RF
      generalize Pure.names u ls = ns at *
      simp only at *
      obtain ⟨n, hn⟩ : ∃ n, n = ns.length := ⟨_, rfl⟩
      rw [← hn] at hnl hn1 HLI HDl hdl ⊢
      have HNn := hide hn
      clear hn
      go_wp2_with fail
      go_loop [13, 14, 15] (fun a b c => ∃ j x y : Nat, j ≤ n ∧ c = .int .i64 j ∧ a = .int .i64 x ∧ b = .int .i64 y ∧ x ≤ j ∧ y ≤ j ∧ Hid (x = (d.take j).countP Pure.inb) ∧ Hid (y = (d.take j).countP (fun z => decide (z = 10)))) (fun _ _ c => n - (intOf c).toNat)
      case atStart => exact ⟨0, 0, 0, Nat.zero_le _, rfl, rfl, rfl, Nat.le_refl _, Nat.le_refl _, rfl, rfl⟩
      case round =>
        obtain ⟨j, x, y, hj, rfl, rfl, rfl, hxj, hyj, HX, HYc⟩ := hrel
        by_cases hjn : j < n
        · have hjl : j < ns.length := by rw [← HNn.out]; exact hjn
          obtain ⟨g, hav, hxx, k1⟩ := HLI.out.names.cell hjl
          clear hxx
          subst hav
          have hjd : j < d.length := by omega
          have k2 := ints_cell HLI.out.row hjd
          obtain ⟨nm, hnm⟩ : ∃ nm, nm = ns.getD j ByteArray.empty := ⟨_, rfl⟩
          have hget : ns[j]? = some nm := by rw [hnm, List.getD_eq_getElem?_getD, List.getElem?_eq_getElem hjl]; rfl
          rw [← hnm] at k1
          have hlk := set_look HLI.out.set (HNS.out nm (List.mem_of_getElem? hget)) Try.underlying29
          have HIJ := hide (HI1.out j nm hget)
          have hdj := HDl.out j hjn
          have HCx := hide (count_succ Pure.inb d hjd)
          have HCy := hide (count_succ (fun z => decide (z = 10)) d hjd)
          obtain ⟨dj, hdje⟩ : ∃ dj, dj = d.getD j 0 := ⟨_, rfl⟩
          rw [← hdje] at k2 HIJ hdj HCx HCy
          obtain ⟨dlo, dhi⟩ := hdj
          clear hnm hget hjd hjl hdje
          by_cases c0 : 0 ≤ dj
          · by_cases c1 : dj ≤ 10
            · by_cases c2 : 10 ≤ dj
              · have e1 : Pure.inb dj = true := by simp [Pure.inb]; omega
                have e2 : decide (dj = 10) = true := by simp; omega
                rw [HIJ.out, e1] at hlk
                have HX2 : Hid (x + 1 = (d.take (j + 1)).countP Pure.inb) := by
                  show _ = _
                  rw [HCx.out, e1, ← HX.out]
                  rfl
                have HY2 : Hid (y + 1 = (d.take (j + 1)).countP (fun z => decide (z = 10))) := by
                  show _ = _
                  rw [HCy.out, e2, ← HYc.out]
                  rfl
                clear HX HYc HCx HCy HIJ e1 e2
                go_wp2_with fail
                go_round
                case rel => exact ⟨j + 1, x + 1, y + 1, by omega, by go_num, by go_num, by go_num, by omega, by omega, HX2, HY2⟩
                case measure => simp [intOf]; omega

              · have e1 : Pure.inb dj = true := by simp [Pure.inb]; omega
                have e2 : decide (dj = 10) = false := by simp; omega
                rw [HIJ.out, e1] at hlk
                have HX2 : Hid (x + 1 = (d.take (j + 1)).countP Pure.inb) := by
                  show _ = _
                  rw [HCx.out, e1, ← HX.out]
                  rfl
                have HY2 : Hid (y = (d.take (j + 1)).countP (fun z => decide (z = 10))) := by
                  show _ = _
                  rw [HCy.out, e2, ← HYc.out]
                  rfl
                clear HX HYc HCx HCy HIJ e1 e2
                go_wp2_with fail
                go_round
                case rel => exact ⟨j + 1, x + 1, y, by omega, by go_num, by go_num, by go_num, by omega, by omega, HX2, HY2⟩
                case measure => simp [intOf]; omega

            · have e1 : Pure.inb dj = false := by simp [Pure.inb]; omega
              have e2 : decide (dj = 10) = false := by simp; omega
              rw [HIJ.out, e1] at hlk
              have HX2 : Hid (x = (d.take (j + 1)).countP Pure.inb) := by
                show _ = _
                rw [HCx.out, e1, ← HX.out]
                rfl
              have HY2 : Hid (y = (d.take (j + 1)).countP (fun z => decide (z = 10))) := by
                show _ = _
                rw [HCy.out, e2, ← HYc.out]
                rfl
              clear HX HYc HCx HCy HIJ e1 e2
              go_wp2_with fail
              go_round
              case rel => exact ⟨j + 1, x, y, by omega, by go_num, by go_num, by go_num, by omega, by omega, HX2, HY2⟩
              case measure => simp [intOf]; omega

          · have e1 : Pure.inb dj = false := by simp [Pure.inb]; omega
            have e2 : decide (dj = 10) = false := by simp; omega
            rw [HIJ.out, e1] at hlk
            have HX2 : Hid (x = (d.take (j + 1)).countP Pure.inb) := by
              show _ = _
              rw [HCx.out, e1, ← HX.out]
              rfl
            have HY2 : Hid (y = (d.take (j + 1)).countP (fun z => decide (z = 10))) := by
              show _ = _
              rw [HCy.out, e2, ← HYc.out]
              rfl
            clear HX HYc HCx HCy HIJ e1 e2
            go_wp2_with fail
            go_round
            case rel => exact ⟨j + 1, x, y, by omega, by go_num, by go_num, by go_num, by omega, by omega, HX2, HY2⟩
            case measure => simp [intOf]; omega

        · have hjn' : j = n := by omega
          have ht : d.take j = d := List.take_of_length_le (by omega)
          have hxR : x = R.length := by rw [HX.out, ht, HI2.out]
          have hyF : y = F.length := by rw [HYc.out, ht, HI3.out]
          have hFl : F.length ≤ 8193 := by
            rw [HI3.out]
            have := List.countP_le_length (p := fun z => decide (z = 10)) (l := d)
            omega
          subst hxR
          subst hyF
          have hln := HLI.out.set.len Try.underlying29
          clear HX HYc hjn' ht HI1 HI2 HI3
          go_wp2_with fail
          go_loopw [17] (fun i wx => ∃ a : Nat, a ≤ F.length ∧ i = .int .i64 a ∧ Hid (Below w5.heap.size w5 wx)) (fun i _ => F.length - (intOf i).toNat)
          case atStart => exact ⟨0, Nat.zero_le _, rfl, Below.refl _ _⟩
          case round =>
            obtain ⟨a, haF, rfl, HBx⟩ := hrel
            clear hln
            by_cases haf : a < F.length
            · have HLx := hide (HLI.out.kept HBx.out)
              obtain ⟨gF, hav, hxx, k1⟩ := HLx.out.far.cell haf
              clear hxx
              subst hav
              obtain ⟨fa, hfa⟩ : ∃ fa, fa = F.getD a ByteArray.empty := ⟨_, rfl⟩
              have hfm : fa ∈ F := by rw [hfa, List.getD_eq_getElem?_getD, List.getElem?_eq_getElem haf]; exact List.getElem_mem haf
              rw [← hfa] at k1
              obtain ⟨hfn, hd10⟩ := HI4.out fa hfm
              obtain ⟨jx, hjx⟩ : ∃ jx, jx = Pure.ix ns fa := ⟨_, rfl⟩
              rw [← hjx] at hd10
              have hjl : jx < n := by rw [hjx, HNn.out]; exact (Pure.ix_lt hfn).1
              have k2 := ints_cell HLx.out.row (i := jx) (by omega)
              rw [hd10] at k2
              have HC : Hid (Calls Try.prog 18 #[.slice avn n cvn, .string fa] wr fun e w' => e = .returned (.int .i64 (jx : Int)) ∧ w' = wr) := by
                have := indexOf_any _ _ ns fa wr HLx.out.names (by rw [← HNn.out]; omega)
                rw [Pure.idx_mem hfn, ← hjx] at this
                exact this
              have hj1 : (jx : Int) < (n : Int) := by omega
              have HFA := hide hfa
              clear hfa hfm hfn hd10 hjx
              go_wp2_with fail
              refine HC.out.mono ?_
              rintro e w' ⟨rfl, hw⟩
              subst w'
              go_wp2_with fail
              go_loopw [19] (fun i wx => ∃ b : Nat, b ≤ a ∧ i = .int .i64 b ∧ Hid (Below w5.heap.size w5 wx)) (fun i _ => a - (intOf i).toNat)
              case atStart => exact ⟨0, Nat.zero_le _, rfl, HBx⟩
              case round =>
                obtain ⟨b, hba, rfl, HBy⟩ := hrel
                clear HBx k1 k2 HC HLx
                by_cases hbl : b < a
                · have HLy := hide (HLI.out.kept HBy.out)
                  obtain ⟨gF1, e1, _, m1⟩ := HLy.out.far.cell haf
                  obtain ⟨gF2, e2, _, m2⟩ := HLy.out.far.cell (i := b) (by omega)
                  simp only [Option.some.injEq, Addr.mk.injEq, and_true] at e1 e2
                  subst e1
                  subst e2
                  rw [← HFA.out] at m1
                  obtain ⟨fb, hfb⟩ : ∃ fb, fb = F.getD b ByteArray.empty := ⟨_, rfl⟩
                  rw [← hfb] at m2
                  have hne : (fb.toList == fa.toList) = false := by
                    rw [bytes_eq, hfb, HFA.out, List.getD_eq_getElem?_getD, List.getD_eq_getElem?_getD, List.getElem?_eq_getElem haf, List.getElem?_eq_getElem (show b < F.length by omega)]
                    have := (List.pairwise_iff_getElem.1 HI5.out) b a (by omega) haf hbl
                    simpa using this
                  have hb0 : (0 : Int) ≤ (b : Int) := Int.natCast_nonneg _
                  have ha0 : (0 : Int) ≤ (a : Int) := Int.natCast_nonneg _
                  have hb1 : (b : Int) < (F.length : Int) := by omega
                  have ha1 : (a : Int) < (F.length : Int) := by omega
                  clear hfb HLy
                  go_wp2_with fail
                  go_quiet (fail)
                  go_wp2_with fail
                  go_roundw
                  case rel => exact ⟨b + 1, by omega, by go_num, by show Below _ _ _; exact below_drewN HBy.out _⟩
                  case measure => simp [intOf]; omega
                · go_wp2_with fail
                  go_roundw
                  case rel => exact ⟨a + 1, by omega, by go_num, HBy⟩
                  case measure => simp [intOf]; omega
            · have HBe := hide (HBe5.out.trans (HBx.out.mono HBe5.out.size))
              clear HBx
              go_wp2_with fail
              go_ret
              exact ⟨rfl, HBe.out⟩
    · go_enter Try.func3, Try.ntmps3
      go_wp2_with (first
        | (go_at_call 11; refine HZ.out.mono ?_; rintro e w' ⟨⟨x, rfl⟩, hw⟩; subst w')
        | (go_at_call 12; refine HY.out.mono ?_; rintro e w' ⟨⟨x, rfl⟩, hw⟩; subst w'))
      all_goals
        go_ret
        exact ⟨rfl, Below.refl _ _⟩
  · go_enter Try.func3, Try.ntmps3
    go_wp2_with (first
      | (go_at_call 11; refine HZ.out.mono ?_; rintro e w' ⟨⟨x, rfl⟩, hw⟩; subst w')
      | (go_at_call 12; refine HY.out.mono ?_; rintro e w' ⟨⟨x, rfl⟩, hw⟩; subst w'))
    all_goals
      go_ret
      exact ⟨rfl, Below.refl _ _⟩

end Go.Proofs.Qxb6000458a
