/-
  Seat b6000458a: walkOfLength, walked.
-/
import Derived.Test.Qxb6000458aShort
namespace Go.Proofs.Qxb6000458a
open Go.RowKit

theorem Try.info4b : (Try.prog.info? 4).map (fun i => (i.zero, i.size, i.bytes)) = some (some (.bool false), 1, 1) := by kernel_rfl

/-- a row of bools, whole -/
def bools (bs : List Bool) : List Value := bs.map Value.bool
theorem bools_set (bs : List Bool) (k : Nat) (x : Bool) : (bools bs).set k (.bool x) = bools (bs.set k x) := by simp [bools]
theorem bools_cell {w : World} {g : Nat} {bs : List Bool} (h : RowIs w g 4 (bools bs)) {i : Nat} (hi : i < bs.length) : w.cell? ⟨g, i, none⟩ = some (.bool (bs.getD i false)) := by
  rw [h.cell, bools, List.getElem?_map, List.getD_eq_getElem?_getD, List.getElem?_eq_getElem hi]
  rfl
theorem bools_replicate (n : Nat) : List.replicate n (Value.bool false) = bools (List.replicate n false) := by simp [bools]

theorem any_succ (p : Nat × Nat → Bool) (es : List (Nat × Nat)) {t : Nat} (h : t < es.length) : (es.take (t + 1)).any p = ((es.take t).any p || p es[t]) := by
  rw [List.take_succ_eq_append_getElem h, List.any_append]
  simp

set_option maxRecDepth 100000 in
set_option maxHeartbeats 3200000 in
theorem wol_any (B n k : Nat) (vm vr : Value) (es : List (Nat × Nat)) (w : World) (hm : RowAt B w vm (es.map fun e => (e.1 : Int))) (hr : RowAt B w vr (es.map fun e => (e.2 : Int))) (hB : B ≤ w.heap.size) (hn : 1 ≤ n) (hn2 : n ≤ 9000) (he : es.length ≤ 4096) (hlt : ∀ e ∈ es, e.1 < n ∧ e.2 < n) (hk : k ≤ 4097) :
    Calls Try.prog 24 #[.int .i64 n, vm, vr, .int .i64 k] w fun e w' => e = .returned (.bool (Pure.wol es n k (Pure.cur0 n))) ∧ Below w.heap.size w w' := by
  have hmk := fun w => make_row (P := Try.prog) 65 4 (.bool false) 1 Try.underlying65 Try.info4b rfl n (by omega) (by omega) w
  obtain ⟨am, cm, hvm⟩ := rowAt_shape hm
  obtain ⟨ar, cr, hvr⟩ := rowAt_shape hr
  simp only [List.length_map] at hvm hvr
  have HM : Hid (∀ x, Below w.heap.size w x → RowAt B x vm (es.map fun e => (e.1 : Int))) := fun x hx => hm.kept (hx.mono hB)
  have HR : Hid (∀ x, Below w.heap.size w x → RowAt B x vr (es.map fun e => (e.2 : Int))) := fun x hx => hr.kept (hx.mono hB)
  have HLT := hide hlt
  obtain ⟨ne, hne⟩ : ∃ ne, ne = es.length := ⟨_, rfl⟩
  have HNE := hide hne
  rw [← hne] at hvm hvr he
  subst hvm
  subst hvr
  have HR0 : Hid (RowIs (w.alloc (.cells (List.replicate n (Value.bool false)).toArray 4)) w.heap.size 4 (bools (List.replicate n false))) := by
    show RowIs _ _ _ _
    rw [← bools_replicate]
    exact RowIs.made w 4 _
  have q0 := bools_cell HR0.out (i := 0) (by simp; omega)
  have f0 := HR0.out.free 0
  obtain ⟨o0, ho0⟩ : ∃ o, o = (List.replicate n false).getD 0 false := ⟨_, rfl⟩
  rw [← ho0] at q0
  have HC0 : Hid (RowIs (w.alloc (.cells ((Array.replicate n (Value.bool false)).setIfInBounds 0 (Value.bool true)) 4)) w.heap.size 4 (bools (Pure.cur0 n))) := by
    have e : ((Array.replicate n (Value.bool false)).setIfInBounds 0 (Value.bool true)) = (bools (Pure.cur0 n)).toArray := by
      apply Array.ext'
      simp [bools, Pure.cur0, List.map_set]
    show RowIs _ _ _ _
    rw [e]
    exact RowIs.made w 4 _
  have HB0 : Hid (Below w.heap.size w (w.alloc (.cells ((Array.replicate n (Value.bool false)).setIfInBounds 0 (Value.bool true)) 4))) := (Below.refl _ _).alloc (Nat.le_refl _) _
  have hcl : (Pure.cur0 n).length = n := by simp [Pure.cur0]
  have HCL := hide hcl
  clear hcl
  have hn0 : 0 < n := hn
  have hnz : n ≠ 0 := by omega
  clear hm hr hlt hne ho0
  go_enter Try.func24, Try.ntmps24
  go_wp2_with fail
  clear q0 f0 HR0
  go_loopw [9, 10] (fun vc i wx => ∃ (st : Nat) (cur : List Bool) (g : Nat), st ≤ k ∧ i = .int .i64 st ∧ vc = .slice (some ⟨g, 0, none⟩) n n ∧ Hid (RowIs wx g 4 (bools cur)) ∧ Hid (cur.length = n) ∧ Hid (w.heap.size ≤ g) ∧ Hid (Pure.wol es n (k - st) cur = Pure.wol es n k (Pure.cur0 n)) ∧ Hid (Below w.heap.size w wx)) (fun _ i _ => k - (intOf i).toNat)
  case atStart => exact ⟨0, Pure.cur0 n, w.heap.size, Nat.zero_le _, rfl, rfl, HC0, HCL, Nat.le_refl _, rfl, HB0⟩
  case round =>
    obtain ⟨st, cur, g, hst, rfl, rfl, HCu, HCl, HGg, HWo, HBe⟩ := hrel
    clear HC0 HB0 HCL
    by_cases hsk : st < k
    · obtain ⟨G, hG⟩ : ∃ G, G = wr.heap.size := ⟨_, rfl⟩
      have HG : Hid (G = wr.heap.size) := hG
      have hgG : g < G := by rw [hG]; exact HCu.out.lt
      have HGw : Hid (w.heap.size ≤ G) := by rw [hG]; exact HBe.out.size
      have HN0 : Hid (RowIs (wr.alloc (.cells (List.replicate n (Value.bool false)).toArray 4)) G 4 (bools (List.replicate n false))) := by
        show RowIs _ _ _ _
        rw [← bools_replicate, hG]
        exact RowIs.made wr 4 _
      have HCu0 := hide (HCu.out.alloc (.cells (List.replicate n (Value.bool false)).toArray 4))
      have HBe0 := hide (HBe.out.alloc HBe.out.size (.cells (List.replicate n (Value.bool false)).toArray 4))
      clear hG
      go_wp2_with fail
      rw [← HG.out]
      go_loopw [12, 13] (fun sm i wx => ∃ (t : Nat) (nx : List Bool) (sb : Bool), t ≤ ne ∧ i = .int .i64 t ∧ sm = .bool sb ∧ Hid (sb = (es.take t).any (fun e => cur.getD e.1 false)) ∧ Hid (RowIs wx g 4 (bools cur)) ∧ Hid (RowIs wx G 4 (bools nx)) ∧ Hid (nx.length = n) ∧ Hid (Pure.nextSet (es.drop t) cur nx = Pure.nextSet es cur (List.replicate n false)) ∧ Hid (Below w.heap.size w wx)) (fun _ i _ => ne - (intOf i).toNat)
      case atStart => exact ⟨0, List.replicate n false, false, Nat.zero_le _, rfl, rfl, by show _ = _; simp, HCu0, HN0, by show _ = _; simp, rfl, HBe0⟩
      case round =>
        obtain ⟨t, nx, sb, ht, rfl, rfl, HSb, HCx, HNx, HNl, HNs, HBx⟩ := hrel
        clear HCu HBe HN0 HCu0 HBe0
        by_cases htl : t < ne
        · have htl' : t < es.length := by rw [← HNE.out]; exact htl
          obtain ⟨g1, cp1, e1, k1⟩ := rowAt_cell (HM.out wr HBx.out) (i := t) (by simpa using htl')
          obtain ⟨g2, cp2, e2, k2⟩ := rowAt_cell (HR.out wr HBx.out) (i := t) (by simpa using htl')
          simp only [Value.slice.injEq] at e1 e2
          obtain ⟨e1, hx1, _⟩ := e1
          obtain ⟨e2, hx2, _⟩ := e2
          clear hx1 hx2
          subst e1
          subst e2
          rw [es_get1 htl'] at k1
          rw [es_get2 htl'] at k2
          have HS : Hid (Pure.nextSet (es.drop (t + 1)) cur (if cur.getD es[t].1 false then nx.set es[t].2 true else nx) = Pure.nextSet es cur (List.replicate n false)) := by
            show _ = _
            rw [← HNs.out, List.drop_eq_getElem_cons htl']
            rfl
          have HA : Hid ((es.take (t + 1)).any (fun e => cur.getD e.1 false) = (sb || cur.getD es[t].1 false)) := by
            show _ = _
            rw [any_succ _ es htl', ← HSb.out]
          obtain ⟨m, hm⟩ : ∃ m, m = es[t].1 := ⟨_, rfl⟩
          obtain ⟨r, hr⟩ : ∃ r, r = es[t].2 := ⟨_, rfl⟩
          have hmn : m < n := by rw [hm]; exact (HLT.out _ (List.getElem_mem htl')).1
          have hrn : r < n := by rw [hr]; exact (HLT.out _ (List.getElem_mem htl')).2
          rw [← hm] at k1 HS HA
          rw [← hr] at k2 HS
          have k3 := bools_cell HCx.out (i := m) (by rw [HCl.out]; exact hmn)
          have k4 := bools_cell HNx.out (i := r) (by rw [HNl.out]; exact hrn)
          obtain ⟨o4, ho4⟩ : ∃ o, o = nx.getD r false := ⟨_, rfl⟩
          rw [← ho4] at k4
          have f4 := HNx.out.free r
          have hm1 : (m : Int) < (n : Int) := by omega
          have hr1 : (r : Int) < (n : Int) := by omega
          clear hm hr ho4 HNs HSb
          cases hb : cur.getD m false with
          | true =>
            rw [hb] at k3 HS HA
            have HN2 : Hid (RowIs (wr.setCell ⟨G, r, none⟩ (.bool true)) G 4 (bools (nx.set r true))) := by
              show RowIs _ _ _ _
              rw [← bools_set]
              exact HNx.out.set r _
            have HC2 := hide (HCx.out.setOther (a := ⟨G, r, none⟩) (show g ≠ G by omega) (.bool true))
            have HB2 := hide (HBx.out.setCell (p := ⟨G, r, none⟩) HGw.out (.bool true))
            have HL2 : Hid ((nx.set r true).length = n) := by show _ = _; rw [List.length_set]; exact HNl.out
            have HA2 : Hid (true = (es.take (t + 1)).any (fun e => cur.getD e.1 false)) := by show _ = _; rw [HA.out]; simp
            clear hb HA HNx HCx HBx HNl
            go_wp2_with fail
            go_roundw
            case rel => exact ⟨t + 1, nx.set r true, true, by omega, by go_num, rfl, HA2, HC2, HN2, HL2, HS, HB2⟩
            case measure => simp [intOf]; omega
          | false =>
            rw [hb] at k3 HS HA
            have HA2 : Hid (sb = (es.take (t + 1)).any (fun e => cur.getD e.1 false)) := by show _ = _; rw [HA.out]; simp
            have HS2 : Hid (Pure.nextSet (es.drop (t + 1)) cur nx = Pure.nextSet es cur (List.replicate n false)) := HS.out
            clear hb HA HS
            go_wp2_with fail
            go_roundw
            case rel => exact ⟨t + 1, nx, sb, by omega, by go_num, rfl, HA2, HCx, HNx, HNl, HS2, HBx⟩
            case measure => simp [intOf]; omega
        · have hte : es.take t = es := List.take_of_length_le (by rw [← HNE.out]; omega)
          have HW : Hid (Pure.wol es n k (Pure.cur0 n) = if sb then Pure.wol es n (k - (st + 1)) nx else false) := by
            have hnx := HNs.out
            rw [List.drop_of_length_le (by rw [← HNE.out]; omega)] at hnx
            have hnx' : nx = Pure.nextSet es cur (List.replicate n false) := hnx
            have hsb := HSb.out
            rw [hte] at hsb
            show _ = _
            rw [← HWo.out, show k - st = (k - (st + 1)) + 1 by omega, Pure.wol, ← hsb, ← hnx']
          clear hte HWo HNs HSb
          cases hsb : sb with
          | true =>
            subst hsb
            have HW2 : Hid (Pure.wol es n (k - (st + 1)) nx = Pure.wol es n k (Pure.cur0 n)) := HW.out.symm
            clear HW
            go_wp2_with fail
            go_roundw
            case rel => exact ⟨st + 1, nx, G, by omega, by go_num, rfl, HNx, HNl, HGw, HW2, HBx⟩
            case measure => simp [intOf]; omega
          | false =>
            subst hsb
            have HW2 : Hid (Pure.wol es n k (Pure.cur0 n) = false) := HW.out
            clear HW
            go_wp2_with fail
            go_ret
            exact ⟨by rw [HW2.out]; rfl, HBx.out⟩
    · have HW : Hid (Pure.wol es n k (Pure.cur0 n) = true) := by
        show _ = _
        rw [← HWo.out, show k - st = 0 by omega]
        rfl
      clear HWo
      go_wp2_with fail
      go_ret
      exact ⟨by rw [HW.out]; rfl, HBe.out⟩

end Go.Proofs.Qxb6000458a
