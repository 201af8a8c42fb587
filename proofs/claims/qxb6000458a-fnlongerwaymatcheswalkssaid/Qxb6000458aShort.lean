/-
  Seat b6000458a: shortestWithin, walked.
-/
import Derived.Test.Qxb6000458aEdges
namespace Go.Proofs.Qxb6000458a
open Go.RowKit

/-- a row of integers, whole -/
def ints (zs : List Int) : List Value := zs.map (Value.int .i64)
theorem ints_set (zs : List Int) (k : Nat) (x : Int) : (ints zs).set k (.int .i64 x) = ints (zs.set k x) := by simp [ints]
theorem ints_cell {w : World} {g : Nat} {zs : List Int} (h : RowIs w g 3 (ints zs)) {i : Nat} (hi : i < zs.length) : w.cell? ⟨g, i, none⟩ = some (.int .i64 (zs.getD i 0)) := by
  rw [h.cell, ints, List.getElem?_map, List.getD_eq_getElem?_getD, List.getElem?_eq_getElem hi]
  rfl
theorem replicate_snoc (k : Nat) (x : Int) : List.replicate k x ++ [x] = List.replicate (k + 1) x := by rw [List.replicate_succ']

/-- what holds of the row of distances -/
structure DInv (w wr : World) (n : Nat) (d : List Int) (lim : Int) : Prop where
  row : RowIs wr w.heap.size 3 (ints d)
  len : d.length = n
  lo : ∀ j, j < n → -1 ≤ d.getD j 0
  hi : ∀ j, j < n → d.getD j 0 ≤ lim
  below : Below w.heap.size w wr

theorem DInv.set {w wr : World} {n : Nat} {d : List Int} {lim : Int} (h : DInv w wr n d lim) {m r : Nat} (hm : m < n) (hr : r < n) (h0 : 0 ≤ d.getD m 0) : DInv w (wr.setCell ⟨w.heap.size, r, none⟩ (.int .i64 (d.getD m 0 + 1))) n (d.set r (d.getD m 0 + 1)) (lim + 1) := by
  have hl := h.len
  have hmm := h.hi m hm
  refine ⟨?_, by simp [hl], fun j hj => ?_, fun j hj => ?_, h.below.setCell (Nat.le_refl _) _⟩
  · rw [← ints_set]
    exact h.row.set r _
  · rw [Pure.getD_set _ _ _ _ (by omega)]
    split
    · omega
    · exact h.lo j hj
  · rw [Pure.getD_set _ _ _ _ (by omega)]
    split
    · omega
    · have := h.hi j hj
      omega
theorem DInv.mono {w wr : World} {n : Nat} {d : List Int} {lim lim' : Int} (h : DInv w wr n d lim) (hl : lim ≤ lim') : DInv w wr n d lim' :=
  ⟨h.row, h.len, h.lo, fun j hj => by have := h.hi j hj; omega, h.below⟩

/-- the e-th line's end, read -/
theorem rowAt_cell {B : Nat} {w : World} {v : Value} {zs : List Int} (h : RowAt B w v zs) {i : Nat} (hi : i < zs.length) : ∃ g cap, v = .slice (some ⟨g, 0, none⟩) zs.length cap ∧ w.cell? ⟨g, i, none⟩ = some (.int .i64 (zs.getD i 0)) := by
  rcases h with ⟨e, _⟩ | ⟨g, cap, e, _, h3⟩
  · rw [e] at hi
    simp at hi
  · exact ⟨g, cap, e, h3 i hi⟩
theorem rowAt_shape {B : Nat} {w : World} {v : Value} {zs : List Int} (h : RowAt B w v zs) : ∃ av cv, v = .slice av zs.length cv := by
  rcases h with ⟨e, e'⟩ | ⟨g, cap, e, _⟩
  · exact ⟨none, 0, by rw [e', e]; rfl⟩
  · exact ⟨_, _, e⟩

theorem es_get1 {es : List (Nat × Nat)} {t : Nat} (h : t < es.length) : (es.map fun e => (e.1 : Int)).getD t 0 = ((es[t].1 : Nat) : Int) := by
  rw [List.getD_eq_getElem?_getD, List.getElem?_map, List.getElem?_eq_getElem h]
  rfl
theorem es_get2 {es : List (Nat × Nat)} {t : Nat} (h : t < es.length) : (es.map fun e => (e.2 : Int)).getD t 0 = ((es[t].2 : Nat) : Int) := by
  rw [List.getD_eq_getElem?_getD, List.getElem?_map, List.getElem?_eq_getElem h]
  rfl

/-- what shortestWithin leaves -/
def ShortPost (w : World) (n : Nat) (es : List (Nat × Nat)) (e : Ending) (w' : World) : Prop :=
  e = .returned (.slice (some ⟨w.heap.size, 0, none⟩) n n) ∧ DInv w w' n (Pure.dists n es) 40960

set_option maxRecDepth 100000 in
set_option maxHeartbeats 3200000 in
theorem short_any (B n : Nat) (vm vr : Value) (es : List (Nat × Nat)) (w : World) (hm : RowAt B w vm (es.map fun e => (e.1 : Int))) (hr : RowAt B w vr (es.map fun e => (e.2 : Int))) (hB : B ≤ w.heap.size) (hn : 1 ≤ n) (hn2 : n ≤ 9000) (he : es.length ≤ 4096) (hlt : ∀ e ∈ es, e.1 < n ∧ e.2 < n) :
    Calls Try.prog 17 #[.int .i64 n, vm, vr, .int .i64 10] w (ShortPost w n es) := by
  have hmk := fun w => make_row (P := Try.prog) 34 3 (.int .i64 0) 8 Try.underlying34 Try.info3e rfl n (by omega) (by omega) w
  obtain ⟨am, cm, hvm⟩ := rowAt_shape hm
  obtain ⟨ar, cr, hvr⟩ := rowAt_shape hr
  simp only [List.length_map] at hvm hvr
  have HM : Hid (∀ x, Below w.heap.size w x → RowAt B x vm (es.map fun e => (e.1 : Int))) := fun x hx => hm.kept (hx.mono hB)
  have HR : Hid (∀ x, Below w.heap.size w x → RowAt B x vr (es.map fun e => (e.2 : Int))) := fun x hx => hr.kept (hx.mono hB)
  have HLT := hide hlt
  obtain ⟨ne, hne⟩ : ∃ ne, ne = es.length := ⟨_, rfl⟩
  have HNE := hide hne
  rw [← hne] at hvm hvr he
  subst hvm
  subst hvr
  clear hm hr hlt hne
  go_enter Try.func17, Try.ntmps17
  go_wp2_with fail
  clear hmk
  go_loopw [10] (fun i wr => ∃ k : Nat, k ≤ n ∧ i = .int .i64 k ∧ Hid (RowIs wr w.heap.size 3 (intsFill (List.replicate k (-1)) n)) ∧ Hid (Below w.heap.size w wr)) (fun i _ => n - (intOf i).toNat)
  case atStart => exact ⟨0, Nat.zero_le _, rfl, by show RowIs _ _ _ _; rw [show List.replicate 0 (-1 : Int) = [] from rfl, intsFill_nil]; exact RowIs.made w 3 _, (Below.refl _ _).alloc (Nat.le_refl _) _⟩
  case round =>
    obtain ⟨k, hk, rfl, HW, HBe⟩ := hrel
    have f1 := HW.out.free
    by_cases hkn : k < n
    · have q1 := HW.out.cellD (i := k) (by rw [intsFill_len (by simp; omega)]; exact hkn) (.int .i64 0)
      obtain ⟨o1, ho1⟩ : ∃ o, o = (intsFill (List.replicate k (-1)) n).getD k (.int .i64 0) := ⟨_, rfl⟩
      rw [← ho1] at q1
      have f2 := f1 k
      have HW2 : Hid (RowIs (wr.setCell ⟨w.heap.size, k, none⟩ (.int .i64 (-1))) w.heap.size 3 (intsFill (List.replicate (k + 1) (-1)) n)) := by
        show RowIs _ _ _ _
        rw [← replicate_snoc, ← intsFill_set (by simp) hkn]
        exact HW.out.set k _
      have HB2 := hide (HBe.out.setCell (p := ⟨w.heap.size, k, none⟩) (Nat.le_refl _) (.int .i64 (-1)))
      clear ho1 f1 HW HBe
      go_wp2_with fail
      go_roundw
      case rel => exact ⟨k + 1, by omega, by go_num, HW2, HB2⟩
      case measure => simp [intOf]; omega
    · have HW1 : Hid (RowIs wr w.heap.size 3 (ints (List.replicate n (-1)))) := by
        have := HW.out
        rw [show k = n by omega] at this
        unfold intsFill at this
        rw [fill_full (by simp)] at this
        exact this
      have q1 := ints_cell HW1.out (i := 0) (by simp; omega)
      obtain ⟨o1, ho1⟩ : ∃ o, o = (List.replicate n (-1 : Int)).getD 0 0 := ⟨_, rfl⟩
      rw [← ho1] at q1
      have f2 := f1 0
      have HD0 : Hid (DInv w (wr.setCell ⟨w.heap.size, 0, none⟩ (.int .i64 0)) n (Pure.dist0 n) 0) := by
        refine ⟨?_, by simp [Pure.dist0], fun j hj => ?_, fun j hj => ?_, HBe.out.setCell (Nat.le_refl _) _⟩
        · rw [Pure.dist0, ← ints_set]
          exact HW1.out.set 0 _
        · rw [Pure.dist0_getD n j (by omega) hj]
          split <;> omega
        · rw [Pure.dist0_getD n j (by omega) hj]
          split <;> omega
      clear ho1 f1 HW HW1 HBe
      go_wp2_with fail
      go_loopw [11] (fun i wx => ∃ (q : Nat) (d : List Int), q ≤ 10 ∧ i = .int .i64 q ∧ Hid (Pure.relaxAll es (10 - q) d = Pure.dists n es) ∧ Hid (DInv w wx n d (q * 4096))) (fun i _ => 10 - (intOf i).toNat)
      case atStart => exact ⟨0, Pure.dist0 n, Nat.zero_le _, rfl, rfl, HD0⟩
      case round =>
        obtain ⟨q, d, hq, rfl, HA, HD⟩ := hrel
        clear HD0 q1 f2
        by_cases hq10 : q < 10
        · go_wp2_with fail
          go_loopw [12] (fun i wx => ∃ (t : Nat) (d' : List Int), t ≤ ne ∧ i = .int .i64 t ∧ Hid ((es.drop t).foldl Pure.relax d' = es.foldl Pure.relax d) ∧ Hid (DInv w wx n d' (q * 4096 + t))) (fun i _ => ne - (intOf i).toNat)
          case atStart => exact ⟨0, d, Nat.zero_le _, rfl, rfl, by show DInv _ _ _ _ _; exact HD.out.mono (by omega)⟩
          case round =>
            obtain ⟨t, d', ht, rfl, HF, HDt⟩ := hrel
            by_cases htl : t < ne
            · have htl' : t < es.length := by rw [← HNE.out]; exact htl
              obtain ⟨g1, cp1, e1, k1⟩ := rowAt_cell (HM.out wr HDt.out.below) (i := t) (by simpa using htl')
              obtain ⟨g2, cp2, e2, k2⟩ := rowAt_cell (HR.out wr HDt.out.below) (i := t) (by simpa using htl')
              simp only [Value.slice.injEq] at e1 e2
              obtain ⟨e1, hx1, _⟩ := e1
              obtain ⟨e2, hx2, _⟩ := e2
              clear hx1 hx2
              subst e1
              subst e2
              rw [es_get1 htl'] at k1
              rw [es_get2 htl'] at k2
              obtain ⟨m, hm⟩ : ∃ m, m = es[t].1 := ⟨_, rfl⟩
              obtain ⟨r, hr⟩ : ∃ r, r = es[t].2 := ⟨_, rfl⟩
              have hmn : m < n := by rw [hm]; exact (HLT.out _ (List.getElem_mem htl')).1
              have hrn : r < n := by rw [hr]; exact (HLT.out _ (List.getElem_mem htl')).2
              have HS : Hid ((es.drop (t + 1)).foldl Pure.relax (Pure.relax d' (m, r)) = es.foldl Pure.relax d) := by
                show _ = _
                rw [← HF.out, List.drop_eq_getElem_cons htl', List.foldl_cons, hm, hr]
              rw [← hm] at k1
              rw [← hr] at k2
              have hdl := HDt.out.len
              have k3 := ints_cell HDt.out.row (i := m) (by omega)
              have k4 := ints_cell HDt.out.row (i := r) (by omega)
              have lo1 := HDt.out.lo m hmn
              have hi1 := HDt.out.hi m hmn
              have lo2 := HDt.out.lo r hrn
              have hi2 := HDt.out.hi r hrn
              have HSet := hide (fun h0 => HDt.out.set (m := m) (r := r) hmn hrn h0)
              have HRx : Hid (Pure.relax d' (m, r) = if 0 ≤ d'.getD m 0 ∧ (d'.getD r 0 < 0 ∨ d'.getD m 0 + 1 < d'.getD r 0) then d'.set r (d'.getD m 0 + 1) else d') := rfl
              obtain ⟨dm, hdm⟩ : ∃ x, x = d'.getD m 0 := ⟨_, rfl⟩
              obtain ⟨dr, hdr⟩ : ∃ x, x = d'.getD r 0 := ⟨_, rfl⟩
              rw [← hdm] at k3 lo1 hi1 HSet HRx
              rw [← hdr] at k4 lo2 hi2 HRx
              have f4 := HDt.out.row.free r
              have hm1 : (m : Int) < (n : Int) := by omega
              have hr1 : (r : Int) < (n : Int) := by omega
              clear hm hr hdm hdr HF hdl
              by_cases c0 : 0 ≤ dm
              · by_cases c1 : dr < 0
                · have HF2 : Hid ((es.drop (t + 1)).foldl Pure.relax (d'.set r (dm + 1)) = es.foldl Pure.relax d) := by
                    have := HS.out
                    rw [HRx.out, if_pos ⟨c0, Or.inl c1⟩] at this
                    exact this
                  have HD2 : Hid (DInv w (wr.setCell ⟨w.heap.size, r, none⟩ (.int .i64 (dm + 1))) n (d'.set r (dm + 1)) (q * 4096 + (t + 1 : Nat))) := (HSet.out c0).mono (by omega)
                  clear HS HRx HSet HDt
                  go_wp2_with fail
                  go_roundw
                  case rel => exact ⟨t + 1, _, by omega, by go_num, HF2, HD2⟩
                  case measure => simp [intOf]; omega
                · by_cases c2 : dm + 1 < dr
                  · have HF2 : Hid ((es.drop (t + 1)).foldl Pure.relax (d'.set r (dm + 1)) = es.foldl Pure.relax d) := by
                      have := HS.out
                      rw [HRx.out, if_pos ⟨c0, Or.inr c2⟩] at this
                      exact this
                    have HD2 : Hid (DInv w (wr.setCell ⟨w.heap.size, r, none⟩ (.int .i64 (dm + 1))) n (d'.set r (dm + 1)) (q * 4096 + (t + 1 : Nat))) := (HSet.out c0).mono (by omega)
                    clear HS HRx HSet HDt
                    go_wp2_with fail
                    go_roundw
                    case rel => exact ⟨t + 1, _, by omega, by go_num, HF2, HD2⟩
                    case measure => simp [intOf]; omega
                  · have HF2 : Hid ((es.drop (t + 1)).foldl Pure.relax d' = es.foldl Pure.relax d) := by
                      have := HS.out
                      rw [HRx.out, if_neg (by omega)] at this
                      exact this
                    have HD2 : Hid (DInv w wr n d' (q * 4096 + (t + 1 : Nat))) := HDt.out.mono (by omega)
                    clear HS HRx HSet HDt
                    go_wp2_with fail
                    go_roundw
                    case rel => exact ⟨t + 1, _, by omega, by go_num, HF2, HD2⟩
                    case measure => simp [intOf]; omega
              · have HF2 : Hid ((es.drop (t + 1)).foldl Pure.relax d' = es.foldl Pure.relax d) := by
                  have := HS.out
                  rw [HRx.out, if_neg (by omega)] at this
                  exact this
                have HD2 : Hid (DInv w wr n d' (q * 4096 + (t + 1 : Nat))) := HDt.out.mono (by omega)
                clear HS HRx HSet HDt
                go_wp2_with fail
                go_roundw
                case rel => exact ⟨t + 1, _, by omega, by go_num, HF2, HD2⟩
                case measure => simp [intOf]; omega
            · have HA2 : Hid (Pure.relaxAll es (10 - (q + 1)) d' = Pure.dists n es) := by
                show _ = _
                have hf := HF.out
                rw [List.drop_of_length_le (by rw [← HNE.out]; omega)] at hf
                have hf' : d' = es.foldl Pure.relax d := hf
                rw [← HA.out, hf', show 10 - q = (10 - (q + 1)) + 1 by omega]
                rfl
              have HD2 : Hid (DInv w wr n d' ((q + 1 : Nat) * 4096)) := HDt.out.mono (by omega)
              clear HA HF HDt HD
              go_wp2_with fail
              go_roundw
              case rel => exact ⟨q + 1, d', by omega, by go_num, HA2, HD2⟩
              case measure => simp [intOf]; omega
        · have HE : Hid (d = Pure.dists n es) := by
            show _ = _
            rw [← HA.out, show 10 - q = 0 by omega]
            rfl
          clear HA
          go_wp2_with fail
          go_ret
          exact ⟨rfl, by rw [← HE.out]; exact HD.out.mono (by omega)⟩

end Go.Proofs.Qxb6000458a
