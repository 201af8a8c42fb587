/-
  Seat b6000458a: indexOf, nameList, edgeEnds, walked.
-/
import Derived.Test.Qxb6000458aReads
import Derived.Test.Qxb6000458aArr
import Derived.Deep.AppendLies
namespace Go.Proofs.Qxb6000458a
open Go.RowKit

/-- v is a slice of the strings ns, below block B -/
def StrAt (B : Nat) (w : World) (v : Value) (ns : List ByteArray) : Prop :=
  (ns = [] ∧ v = .slice none 0 0) ∨ ∃ g cap, v = .slice (some ⟨g, 0, none⟩) ns.length cap ∧ g < B ∧ ∀ i, i < ns.length → w.cell? ⟨g, i, none⟩ = some (.string (ns.getD i ByteArray.empty))
theorem StrAt.kept {B : Nat} {w w' : World} {v : Value} {ns : List ByteArray} (h : StrAt B w v ns) (hb : Below B w w') : StrAt B w' v ns := by
  rcases h with h | ⟨g, cap, h1, h2, h3⟩
  · exact Or.inl h
  · exact Or.inr ⟨g, cap, h1, h2, fun i hi => (hb.cell h2).trans (h3 i hi)⟩
theorem StrAt.mono {B B' : Nat} {w : World} {v : Value} {ns : List ByteArray} (h : StrAt B w v ns) (hb : B ≤ B') : StrAt B' w v ns := by
  rcases h with h | ⟨g, cap, h1, h2, h3⟩
  · exact Or.inl h
  · exact Or.inr ⟨g, cap, h1, by omega, h3⟩
theorem StrAt.of_owns {w : World} {base : Nat} {v : Value} {F : List ByteArray} (h : w.ownsRow base 9 1 v F.length (F.map Value.string)) : StrAt w.heap.size w v F := by
  rcases h.2 with ⟨e, h0⟩ | ⟨g, cap, cur, e, _, hh, _⟩
  · exact Or.inl ⟨List.length_eq_zero_iff.1 h0, e⟩
  · refine Or.inr ⟨g, cap, e, lt_of_block hh, fun i hi => ?_⟩
    have hc := h
    rw [e] at hc
    rw [hc.cellAt i (by simpa using hi)]
    simp [List.getD, List.getElem?_eq_getElem hi]
theorem StrAt.shape {B : Nat} {w : World} {v : Value} {ns : List ByteArray} (h : StrAt B w v ns) : ∃ av cv, v = .slice av ns.length cv := by
  rcases h with ⟨e, e'⟩ | ⟨g, cap, e, _⟩
  · exact ⟨none, 0, by rw [e', e]; rfl⟩
  · exact ⟨_, _, e⟩

theorem bytes_eq {s t : ByteArray} : (s.toList == t.toList) = decide (s = t) := by
  rw [ByteArray.toList_eq, ByteArray.toList_eq]
  by_cases h : s = t
  · subst h
    simp
  · have h' : s.data.toList ≠ t.data.toList := fun q => h (Go.WideShapes.bytes_inj q)
    simp [h]
    exact fun q => h' (by rw [q])

set_option maxHeartbeats 400000 in
theorem indexOf_any (B : Nat) (v : Value) (ns : List ByteArray) (s : ByteArray) (w : World) (hv : StrAt B w v ns) (hn : ns.length ≤ 9000) :
    Calls Try.prog 18 #[v, .string s] w fun e w' => e = .returned (.int .i64 (Pure.idx ns s)) ∧ w' = w := by
  obtain ⟨av, cv, rfl⟩ := hv.shape
  have HV := hide hv
  obtain ⟨n, hnn⟩ : ∃ n, n = ns.length := ⟨_, rfl⟩
  have HN := hide hnn
  rw [← hnn] at hn ⊢
  clear hv hnn
  go_enter Try.func18, Try.ntmps18
  go_wp2
  go_loop [5] (fun i => ∃ k : Nat, k ≤ n ∧ i = .int .i64 k ∧ Hid (∀ j, j < k → ns[j]? ≠ some s)) (fun i => n - (intOf i).toNat)
  case atStart => exact ⟨0, Nat.zero_le _, rfl, fun j hj => by omega⟩
  case round =>
    obtain ⟨k, hk, rfl, HK⟩ := hrel
    by_cases hlt : k < n
    · have hkl : k < ns.length := by rw [← HN.out]; exact hlt
      obtain ⟨g, ha, hc⟩ : ∃ g, av = some ⟨g, 0, none⟩ ∧ w.cell? ⟨g, k, none⟩ = some (.string ns[k]) := by
        rcases HV.out with ⟨e, _⟩ | ⟨g, cap, e, _, h3⟩
        · rw [e] at hkl
          simp at hkl
        · simp only [Value.slice.injEq] at e
          refine ⟨g, e.1, ?_⟩
          rw [h3 k hkl, List.getD_eq_getElem?_getD, List.getElem?_eq_getElem hkl]
          rfl
      subst ha
      obtain ⟨t, ht⟩ : ∃ t, t = ns[k] := ⟨_, rfl⟩
      rw [← ht] at hc
      have HT := hide ht
      clear ht
      by_cases hts : t = s
      · have HE : Hid (Pure.idx ns s = (k : Int)) := by
          have hi : Pure.ix ns s = k := Pure.ix_eq k (by rw [List.getElem?_eq_getElem hkl, ← HT.out, hts]) HK.out
          show Pure.idx ns s = _
          unfold Pure.idx
          rw [hi, if_pos hkl]
        clear HK HN
        go_wp2
        go_ret
        exact ⟨by rw [HE.out]; rfl, rfl⟩
      · have hq : (t.toList == s.toList) = false := by rw [bytes_eq]; simpa using hts
        have HK2 : Hid (∀ j, j < k + 1 → ns[j]? ≠ some s) := fun j hj => by
          by_cases e : j = k
          · subst e
            rw [List.getElem?_eq_getElem hkl, ← HT.out]
            exact fun q => hts (by simpa using q)
          · exact HK.out j (by omega)
        clear HK hts HT
        go_wp2
        go_round
        case rel => exact ⟨k + 1, by omega, by go_num, HK2⟩
        case measure => simp [intOf]; omega
    · have HE : Hid (Pure.idx ns s = -1) := by
        refine Pure.idx_none fun hm => ?_
        obtain ⟨j, hj, e⟩ := List.getElem_of_mem hm
        exact HK.out j (by have := HN.out; omega) (by rw [List.getElem?_eq_getElem hj, e])
      clear HK HN
      go_wp2
      go_ret
      exact ⟨by rw [HE.out]; rfl, rfl⟩

theorem Try.info9n : (Try.prog.info? 9).map (fun i => (i.zero, i.size, i.bytes)) = some (some (.string ByteArray.empty), 1, 16) := by kernel_rfl

/-- the names of the first k lines -/
def namesTo (u : ByteArray) (ls : List (ByteArray × ByteArray)) (k : Nat) : List ByteArray := (ls.take k).foldl Pure.addLine [u]
theorem namesTo_succ (u : ByteArray) {ls : List (ByteArray × ByteArray)} {k : Nat} (h : k < ls.length) : namesTo u ls (k + 1) = Pure.addName (Pure.addName (namesTo u ls k) (ls.getD k dfl).1) (ls.getD k dfl).2 := by
  unfold namesTo
  rw [List.take_succ_eq_append_getElem h, List.foldl_append]
  simp [Pure.addLine, List.getD_eq_getElem?_getD, List.getElem?_eq_getElem h]
theorem namesTo_len (u : ByteArray) (ls : List (ByteArray × ByteArray)) (k : Nat) : (namesTo u ls k).length ≤ 1 + 2 * k := by
  have h := (Pure.names_fold (ls.take k) [u] u (by simp) rfl).2.2.2.2
  have h2 : (ls.take k).length ≤ k := List.length_take_le _ _
  show ((ls.take k).foldl Pure.addLine [u]).length ≤ _
  simp only [List.length_singleton] at h
  omega
theorem addName_in {ns : List ByteArray} {s : ByteArray} (h : s ∈ ns) : Pure.addName ns s = ns := by simp [Pure.addName, h]
theorem addName_out {ns : List ByteArray} {s : ByteArray} (h : s ∉ ns) : Pure.addName ns s = ns ++ [s] := by simp [Pure.addName, h]
theorem idx_in {ns : List ByteArray} {s : ByteArray} (h : s ∈ ns) : 0 ≤ Pure.idx ns s := by
  rw [Pure.idx_mem h]
  omega
theorem idx_out {ns : List ByteArray} {s : ByteArray} (h : s ∉ ns) : Pure.idx ns s < 0 := Pure.idx_neg.2 h

/-- what holds at the head of nameList's rounds -/
structure NInv (w wr : World) (v : Value) (ns : List ByteArray) : Prop where
  own : wr.ownsRow w.heap.size 9 1 v ns.length (ns.map Value.string)
  below : Below w.heap.size w wr

theorem NInv.start (w : World) (u : ByteArray) : NInv w (w.alloc (.cells #[.string u] 9)) (.slice (some ⟨w.heap.size, 0, none⟩) 1 1) [u] :=
  ⟨⟨by simp, Or.inr ⟨w.heap.size, 1, #[.string u], rfl, Nat.le_refl _, heap_alloc_new _ _, Nat.le_refl _, by unfold maxLen; decide, by simp, by simp⟩⟩, (Below.refl _ _).alloc (Nat.le_refl _) _⟩

theorem NInv.push {w wr w1 : World} {v : Value} {ns : List ByteArray} {s : ByteArray} {g cap : Nat} (h : NInv w wr v ns) (hg : (wr.alloc (.cells #[.string s] 9)).grownBy w1 v.ownBlock)
    (ho : w1.ownsRow w.heap.size 9 1 (.slice (some ⟨g, 0, none⟩) (ns.length + 1) cap) (ns.length + 1) (ns.map Value.string ++ [.string s])) : NInv w w1 (.slice (some ⟨g, 0, none⟩) (ns.length + 1) cap) (ns ++ [s]) :=
  ⟨by simpa using ho, h.below.grown ((World.grownBy_alloc wr (.cells #[.string s] 9) v.ownBlock).trans hg) h.below.size (fun k e => (h.own.lt k e).1)⟩

set_option maxRecDepth 100000 in
set_option maxHeartbeats 1600000 in
theorem nameList_any (u : ByteArray) (a : Option Addr) (len cap : Nat) (ls : List (ByteArray × ByteArray)) (w : World) (hl : IsLines w a len cap ls) (h4 : len ≤ 4096) :
    Calls Try.prog 15 #[.string u, .slice a len cap] w fun e w' => ∃ v, e = .returned v ∧ NInv w w' v (Pure.names u ls) := by
  obtain ⟨h1, h2, h3, h5⟩ := hl
  unfold maxLen at h3
  obtain ⟨i0, hi, hz0, hz1, hz2⟩ := info_parts Try.info9n
  have HL := hide h1
  have HI0 := hide (NInv.start w u)
  clear h1
  go_enter Try.func15, Try.ntmps15
  go_wp2
  go_loopw [5, 6] (fun v i wr => ∃ k : Nat, k ≤ len ∧ i = .int .i64 k ∧ Hid (NInv w wr v (namesTo u ls k))) (fun _ i _ => len - (intOf i).toNat)
  case atStart => exact ⟨0, Nat.zero_le _, rfl, HI0⟩
  case round =>
    obtain ⟨k, hk, rfl, HI⟩ := hrel
    clear HI0
    by_cases hlt : k < len
    · rcases h5 with h6 | ⟨b, off, rfl, hc⟩
      · omega
      obtain ⟨c0, c1⟩ := hc k hlt
      have hbl : b < w.heap.size := World.block_lt_of_cell? w _ c0
      have hkl : k < ls.length := by rw [HL.out]; exact hlt
      obtain ⟨s0, hs0⟩ : ∃ s, s = (ls.getD k dfl).1 := ⟨_, rfl⟩
      obtain ⟨s1, hs1⟩ : ∃ s, s = (ls.getD k dfl).2 := ⟨_, rfl⟩
      have HC : Hid (∀ x : World, Below w.heap.size w x → x.cell? ⟨b, off + k * 2, none⟩ = some (.string s0) ∧ x.cell? ⟨b, off + k * 2 + 1, none⟩ = some (.string s1)) := by
        intro x hx
        rw [hs0, hs1]
        exact ⟨(hx.cell hbl).trans c0, (hx.cell hbl).trans c1⟩
      have hnl := namesTo_len u ls k
      obtain ⟨ns, hns⟩ : ∃ ns, ns = namesTo u ls k := ⟨_, rfl⟩
      rw [← hns] at HI hnl
      have HS : Hid (namesTo u ls (k + 1) = Pure.addName (Pure.addName ns s0) s1) := by
        rw [hns, hs0, hs1]
        exact namesTo_succ u hkl
      clear hc c0 c1 hs0 hs1 hns
      obtain ⟨g0, g1⟩ := HC.out wr HI.out.below
      have hwr := HI.out.below.size
      have HX := hide (fun (s : ByteArray) => indexOf_any _ u5 ns s wr (StrAt.of_owns HI.out.own) (by omega))
      by_cases h0 : s0 ∈ ns
      · have i1 := idx_in h0
        by_cases hh1 : s1 ∈ ns
        · have i2 := idx_in hh1
          have HE : Hid (NInv w wr u5 (namesTo u ls (k + 1))) := by
            show NInv _ _ _ _
            rw [HS.out, addName_in h0, addName_in hh1]
            exact HI.out
          clear HS h0 hh1 HI
          go_wp2_with (go_at_call 18; refine (HX.out _).mono ?_; rintro e w' ⟨rfl, hw⟩; subst w')
          go_roundw
          case rel => exact ⟨k + 1, by omega, by go_num, HE⟩
          case measure => simp [intOf]; omega
        · have i2 := idx_out hh1
          have HE : Hid (namesTo u ls (k + 1) = ns ++ [s1]) := by
            show _ = _
            rw [HS.out, addName_in h0, addName_out hh1]
          clear HS h0 hh1
          go_wp2_with (first
            | (go_at_call 18; refine (HX.out _).mono ?_; rintro e w' ⟨rfl, hw⟩; subst w')
            | (at_builtin; refine wpList_append_lies _ rfl (.tmp 39) (.tmp 45) 30 rfl w.heap.size 9 i0 _ 1 16 Try.underlying30 hi hz0 hz1 hz2 rfl (by decide) u5 ns.length (ns.map Value.string) rfl (HI.out.own.alloc _) ⟨wr.heap.size, 0, none⟩ 1 1 [.string s1] rfl rfl (World.news_of_block (cs := #[.string s1]) (t := 9) (fr := (0, 0)) (heap_alloc_new wr _)) (by simp [Value.oneCell']) (by decide) (by unfold maxLen; omega) (by omega) (by simp; omega) (wr.heap.size + 1) (by simp) ?_; intro gg cp w3 hown3 hgrow3 hat3 hlt3; have HI3 := hide (HI.out.push hgrow3 hown3); clear hown3 hgrow3 hat3 hlt3))
          rw [← HE.out] at HI3
          go_roundw
          case rel => first | exact ⟨k + 1, by omega, by go_num, HI3⟩ | ((repeat apply Exists.intro); refine ⟨⟨k + 1, ?_, ?_, HI3⟩, rfl⟩ <;> first | omega | go_num)
          case measure => simp [intOf]; omega
      · have i1 := idx_out h0
        by_cases hh1 : s1 ∈ ns ++ [s0]
        · have i2 := idx_in hh1
          have HE : Hid (namesTo u ls (k + 1) = ns ++ [s0]) := by
            show _ = _
            rw [HS.out, addName_out h0, addName_in hh1]
          clear HS h0 hh1
          go_wp2_with (first
            | (go_at_call 18; refine (HX.out _).mono ?_; rintro e w' ⟨rfl, hw⟩; subst w'; clear HX)
            | (at_builtin; refine wpList_append_lies _ rfl (.tmp 23) (.tmp 29) 30 rfl w.heap.size 9 i0 _ 1 16 Try.underlying30 hi hz0 hz1 hz2 rfl (by decide) u5 ns.length (ns.map Value.string) rfl (HI.out.own.alloc _) ⟨wr.heap.size, 0, none⟩ 1 1 [.string s0] rfl rfl (World.news_of_block (cs := #[.string s0]) (t := 9) (fr := (0, 0)) (heap_alloc_new wr _)) (by simp [Value.oneCell']) (by decide) (by unfold maxLen; omega) (by omega) (by simp; omega) (wr.heap.size + 1) (by simp) ?_; intro gg cp w3 hown3 hgrow3 hat3 hlt3; have HI3 := hide (HI.out.push hgrow3 hown3); obtain ⟨g0', g1'⟩ := HC.out w3 HI3.out.below; have hw3 := HI3.out.below.size; clear hown3 hgrow3 hat3 hlt3))
          refine (indexOf_any _ _ (ns ++ [s0]) s1 w3 (StrAt.of_owns HI3.out.own) (by simp; omega)).mono ?_
          rintro e w' ⟨rfl, hw⟩
          subst w'
          go_wp2_with fail
          rw [← HE.out] at HI3
          go_roundw
          case rel => first | exact ⟨k + 1, by omega, by go_num, HI3⟩ | ((repeat apply Exists.intro); refine ⟨⟨k + 1, ?_, ?_, HI3⟩, rfl⟩ <;> first | omega | go_num)
          case measure => simp [intOf]; omega
        · have i2 := idx_out hh1
          have HE : Hid (namesTo u ls (k + 1) = ns ++ [s0] ++ [s1]) := by
            show _ = _
            rw [HS.out, addName_out h0, addName_out hh1]
          clear HS h0 hh1
          go_wp2_with (first
            | (go_at_call 18; refine (HX.out _).mono ?_; rintro e w' ⟨rfl, hw⟩; subst w'; clear HX)
            | (at_builtin; refine wpList_append_lies _ rfl (.tmp 23) (.tmp 29) 30 rfl w.heap.size 9 i0 _ 1 16 Try.underlying30 hi hz0 hz1 hz2 rfl (by decide) u5 ns.length (ns.map Value.string) rfl (HI.out.own.alloc _) ⟨wr.heap.size, 0, none⟩ 1 1 [.string s0] rfl rfl (World.news_of_block (cs := #[.string s0]) (t := 9) (fr := (0, 0)) (heap_alloc_new wr _)) (by simp [Value.oneCell']) (by decide) (by unfold maxLen; omega) (by omega) (by simp; omega) (wr.heap.size + 1) (by simp) ?_; intro gg cp w3 hown3 hgrow3 hat3 hlt3; have HI3 := hide (HI.out.push hgrow3 hown3); obtain ⟨g0', g1'⟩ := HC.out w3 HI3.out.below; have hw3 := HI3.out.below.size; clear hown3 hgrow3 hat3 hlt3))
          refine (indexOf_any _ _ (ns ++ [s0]) s1 w3 (StrAt.of_owns HI3.out.own) (by simp; omega)).mono ?_
          rintro e w' ⟨rfl, hw⟩
          subst w'
          go_wp2_with (at_builtin; refine wpList_append_lies _ rfl (.tmp 39) (.tmp 45) 30 rfl w.heap.size 9 i0 _ 1 16 Try.underlying30 hi hz0 hz1 hz2 rfl (by decide) _ (ns ++ [s0]).length ((ns ++ [s0]).map Value.string) rfl (HI3.out.own.alloc _) ⟨w3.heap.size, 0, none⟩ 1 1 [.string s1] rfl rfl (World.news_of_block (cs := #[.string s1]) (t := 9) (fr := (0, 0)) (heap_alloc_new w3 _)) (by simp [Value.oneCell']) (by decide) (by unfold maxLen; simp; omega) (by simp; omega) (by simp; omega) (w3.heap.size + 1) (by simp) ?_; intro gg2 cp2 w4 hown4 hgrow4 hat4 hlt4; have HI4 := hide (HI3.out.push hgrow4 hown4); clear hown4 hgrow4 hat4 hlt4)
          rw [← HE.out, show (ns ++ [s0]).length + 1 = ns.length + 1 + 1 by simp] at HI4
          go_roundw
          case rel => first | exact ⟨k + 1, by omega, by go_num, HI4⟩ | ((repeat apply Exists.intro); refine ⟨⟨k + 1, ?_, ?_, HI4⟩, rfl⟩ <;> first | omega | go_num)
          case measure => simp [intOf]; omega
    · have hkl : k = len := by omega
      have HE : Hid (NInv w wr u5 (Pure.names u ls)) := by
        have := HI.out
        rw [hkl, ← HL.out] at this
        unfold namesTo at this
        rw [List.take_length] at this
        exact this
      clear HI hkl
      go_wp2
      go_ret
      exact ⟨_, rfl, HE.out⟩

end Go.Proofs.Qxb6000458a
