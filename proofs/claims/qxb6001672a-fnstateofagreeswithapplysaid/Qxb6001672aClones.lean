/-
  Seat b6001672a: the clones, walked.
-/
import Derived.Test.Qxb6001672aSlices
namespace Go.Proofs.Qxb6001672a
open Go.RowKit

/-- what a clone leaves: nil of nil; else a new row -/
def ClonePost (w : World) (E : TypeId) (len : Nat) (xs : List Value) (e : Ending) (w' : World) : Prop :=
  (e = .returned (.slice none 0 0) ∧ w' = w ∧ len = 0 ∧ xs = []) ∨ (e = .returned (.slice (some ⟨w.heap.size, 0, none⟩) len len) ∧ RowIs w' w.heap.size E xs ∧ Below w.heap.size w w')

theorem Try.info3_21 : (Try.prog.info? 3).map (fun i => (i.zero, i.size, i.bytes)) = some (some (.int .i64 0), 1, 8) := by kernel_rfl
set_option maxRecDepth 100000 in
set_option maxHeartbeats 800000 in
/-- cloneInts -/
theorem clone21 (B : Nat) (a : Option Addr) (len cap : Nat) (zs : List Int) (w : World) (hs : SliceAt B w a (zs.map (Value.int .i64))) (hB : B ≤ w.heap.size) (hl : zs.length = len) (hn : a = none → len = 0) (hsz : len ≤ 1048576) :
    Calls Try.prog 21 #[.slice a len cap] w (ClonePost w 3 len (zs.map (Value.int .i64))) := by
  have hnil := fun w => Lib.run_eql_slice_nil (P := Try.prog) w 37 3 a len cap 0 0 Try.underlying37
  cases a with
  | none =>
    have h0 := hn rfl
    have HE : Hid (len = 0 ∧ zs.map (Value.int .i64) = []) := ⟨h0, by rw [List.map_eq_nil_iff]; exact List.length_eq_zero_iff.1 (by omega)⟩
    clear hs hn h0
    go_enter Try.func21, Try.ntmps21
    go_wp2_with fail
    go_ret
    exact Or.inl ⟨rfl, rfl, HE.out.1, HE.out.2⟩
  | some ad =>
    have hmk := fun w => make_row (P := Try.prog) 37 3 (.int .i64 0) 8 Try.underlying37 Try.info3_21 rfl len (by omega) (by omega) w
    have HL := hide hl
    have HS : Hid (∀ x, Below w.heap.size w x → SliceAt B x (some ad) (zs.map (Value.int .i64))) := fun x hx => hs.kept (hx.mono hB)
    clear hs hn hl
    go_enter Try.func21, Try.ntmps21
    go_wp2_with fail
    clear hmk hnil
    go_loopw [4] (fun i wr => ∃ k : Nat, k ≤ len ∧ i = .int .i64 k ∧ Hid (RowIs wr w.heap.size 3 ((fill (zs.take k) len 0).map (Value.int .i64))) ∧ Hid (Below w.heap.size w wr)) (fun i _ => len - (intOf i).toNat)
    case atStart => exact ⟨0, Nat.zero_le _, rfl, by show RowIs _ _ _ _; rw [List.take_zero, fill_nil, List.map_replicate]; exact RowIs.made w 3 _, (Below.refl _ _).alloc (Nat.le_refl _) _⟩
    case round =>
      obtain ⟨k, hk, rfl, HR, HBe⟩ := hrel
      by_cases hlt : k < len
      · have hkl : k < zs.length := by rw [HL.out]; exact hlt
        obtain ⟨b, off, e, hbB, k1⟩ := (HS.out wr HBe.out).cell (i := k) (by simpa using hkl)
        simp only [Option.some.injEq] at e
        subst e
        obtain ⟨x, hx⟩ : ∃ x, x = zs[k] := ⟨_, rfl⟩
        have hg : (zs.map (Value.int .i64)).getD k undef = (.int .i64 x) := by rw [List.getD_eq_getElem?_getD, List.getElem?_map, List.getElem?_eq_getElem hkl, hx]; rfl
        rw [hg] at k1
        have hlf : ((fill (zs.take k) len 0).map (Value.int .i64)).length = len := by rw [List.length_map, fill_length (by simp; omega)]
        have k2 := HR.out.cellD (i := k) (by rw [hlf]; exact hlt) undef
        obtain ⟨o, ho⟩ : ∃ o, o = ((fill (zs.take k) len 0).map (Value.int .i64)).getD k undef := ⟨_, rfl⟩
        rw [← ho] at k2
        have f2 := HR.out.free k
        have HR2 : Hid (RowIs (wr.setCell ⟨w.heap.size, k, none⟩ (.int .i64 x)) w.heap.size 3 ((fill (zs.take (k + 1)) len 0).map (Value.int .i64))) := by
          have h1 := HR.out.set k (.int .i64 x)
          have h2 : (fill (zs.take k) len 0).set k x = fill (zs.take (k + 1)) len 0 := by
            have h3 := fill_set (xs := zs.take k) (n := len) (by simp; omega) 0 x
            rw [List.length_take, Nat.min_eq_left (by omega)] at h3
            rw [h3, List.take_succ_eq_append_getElem hkl, hx]
          rw [← List.map_set, h2] at h1
          exact h1
        have HB2 := hide (HBe.out.setCell (p := ⟨w.heap.size, k, none⟩) (Nat.le_refl _) (.int .i64 x))
        clear hg hlf ho hx HR HBe
        go_wp2_with fail
        go_roundw
        case rel => exact ⟨k + 1, by omega, by go_num, HR2, HB2⟩
        case measure => simp [intOf]; omega
      · have HR2 : Hid (RowIs wr w.heap.size 3 (zs.map (Value.int .i64))) := by
          have h1 := HR.out
          rw [show k = len by omega, List.take_of_length_le (by rw [HL.out]; omega), fill_full HL.out] at h1
          exact h1
        clear HR
        go_wp2_with fail
        go_ret
        exact Or.inr ⟨rfl, HR2.out, HBe.out⟩

theorem Try.info4_22 : (Try.prog.info? 4).map (fun i => (i.zero, i.size, i.bytes)) = some (some (.bool false), 1, 1) := by kernel_rfl
set_option maxRecDepth 100000 in
set_option maxHeartbeats 800000 in
/-- cloneBools -/
theorem clone22 (B : Nat) (a : Option Addr) (len cap : Nat) (zs : List Bool) (w : World) (hs : SliceAt B w a (zs.map Value.bool)) (hB : B ≤ w.heap.size) (hl : zs.length = len) (hn : a = none → len = 0) (hsz : len ≤ 1048576) :
    Calls Try.prog 22 #[.slice a len cap] w (ClonePost w 4 len (zs.map Value.bool)) := by
  have hnil := fun w => Lib.run_eql_slice_nil (P := Try.prog) w 38 4 a len cap 0 0 Try.underlying38
  cases a with
  | none =>
    have h0 := hn rfl
    have HE : Hid (len = 0 ∧ zs.map Value.bool = []) := ⟨h0, by rw [List.map_eq_nil_iff]; exact List.length_eq_zero_iff.1 (by omega)⟩
    clear hs hn h0
    go_enter Try.func22, Try.ntmps22
    go_wp2_with fail
    go_ret
    exact Or.inl ⟨rfl, rfl, HE.out.1, HE.out.2⟩
  | some ad =>
    have hmk := fun w => make_row (P := Try.prog) 38 4 (.bool false) 1 Try.underlying38 Try.info4_22 rfl len (by omega) (by omega) w
    have HL := hide hl
    have HS : Hid (∀ x, Below w.heap.size w x → SliceAt B x (some ad) (zs.map Value.bool)) := fun x hx => hs.kept (hx.mono hB)
    clear hs hn hl
    go_enter Try.func22, Try.ntmps22
    go_wp2_with fail
    clear hmk hnil
    go_loopw [4] (fun i wr => ∃ k : Nat, k ≤ len ∧ i = .int .i64 k ∧ Hid (RowIs wr w.heap.size 4 ((fill (zs.take k) len false).map Value.bool)) ∧ Hid (Below w.heap.size w wr)) (fun i _ => len - (intOf i).toNat)
    case atStart => exact ⟨0, Nat.zero_le _, rfl, by show RowIs _ _ _ _; rw [List.take_zero, fill_nil, List.map_replicate]; exact RowIs.made w 4 _, (Below.refl _ _).alloc (Nat.le_refl _) _⟩
    case round =>
      obtain ⟨k, hk, rfl, HR, HBe⟩ := hrel
      by_cases hlt : k < len
      · have hkl : k < zs.length := by rw [HL.out]; exact hlt
        obtain ⟨b, off, e, hbB, k1⟩ := (HS.out wr HBe.out).cell (i := k) (by simpa using hkl)
        simp only [Option.some.injEq] at e
        subst e
        obtain ⟨x, hx⟩ : ∃ x, x = zs[k] := ⟨_, rfl⟩
        have hg : (zs.map Value.bool).getD k undef = (.bool x) := by rw [List.getD_eq_getElem?_getD, List.getElem?_map, List.getElem?_eq_getElem hkl, hx]; rfl
        rw [hg] at k1
        have hlf : ((fill (zs.take k) len false).map Value.bool).length = len := by rw [List.length_map, fill_length (by simp; omega)]
        have k2 := HR.out.cellD (i := k) (by rw [hlf]; exact hlt) undef
        obtain ⟨o, ho⟩ : ∃ o, o = ((fill (zs.take k) len false).map Value.bool).getD k undef := ⟨_, rfl⟩
        rw [← ho] at k2
        have f2 := HR.out.free k
        have HR2 : Hid (RowIs (wr.setCell ⟨w.heap.size, k, none⟩ (.bool x)) w.heap.size 4 ((fill (zs.take (k + 1)) len false).map Value.bool)) := by
          have h1 := HR.out.set k (.bool x)
          have h2 : (fill (zs.take k) len false).set k x = fill (zs.take (k + 1)) len false := by
            have h3 := fill_set (xs := zs.take k) (n := len) (by simp; omega) false x
            rw [List.length_take, Nat.min_eq_left (by omega)] at h3
            rw [h3, List.take_succ_eq_append_getElem hkl, hx]
          rw [← List.map_set, h2] at h1
          exact h1
        have HB2 := hide (HBe.out.setCell (p := ⟨w.heap.size, k, none⟩) (Nat.le_refl _) (.bool x))
        clear hg hlf ho hx HR HBe
        go_wp2_with fail
        go_roundw
        case rel => exact ⟨k + 1, by omega, by go_num, HR2, HB2⟩
        case measure => simp [intOf]; omega
      · have HR2 : Hid (RowIs wr w.heap.size 4 (zs.map Value.bool)) := by
          have h1 := HR.out
          rw [show k = len by omega, List.take_of_length_le (by rw [HL.out]; omega), fill_full HL.out] at h1
          exact h1
        clear HR
        go_wp2_with fail
        go_ret
        exact Or.inr ⟨rfl, HR2.out, HBe.out⟩

theorem Try.info2_15 : (Try.prog.info? 2).map (fun i => (i.zero, i.size, i.bytes)) = some (some (.int .i64 0), 1, 8) := by kernel_rfl
set_option maxRecDepth 100000 in
set_option maxHeartbeats 800000 in
/-- cloneInt64s -/
theorem clone15 (B : Nat) (a : Option Addr) (len cap : Nat) (zs : List Int) (w : World) (hs : SliceAt B w a (zs.map (Value.int .i64))) (hB : B ≤ w.heap.size) (hl : zs.length = len) (hn : a = none → len = 0) (hsz : len ≤ 1048576) :
    Calls Try.prog 15 #[.slice a len cap] w (ClonePost w 2 len (zs.map (Value.int .i64))) := by
  have hnil := fun w => Lib.run_eql_slice_nil (P := Try.prog) w 27 2 a len cap 0 0 Try.underlying27
  cases a with
  | none =>
    have h0 := hn rfl
    have HE : Hid (len = 0 ∧ zs.map (Value.int .i64) = []) := ⟨h0, by rw [List.map_eq_nil_iff]; exact List.length_eq_zero_iff.1 (by omega)⟩
    clear hs hn h0
    go_enter Try.func15, Try.ntmps15
    go_wp2_with fail
    go_ret
    exact Or.inl ⟨rfl, rfl, HE.out.1, HE.out.2⟩
  | some ad =>
    have hmk := fun w => make_row (P := Try.prog) 27 2 (.int .i64 0) 8 Try.underlying27 Try.info2_15 rfl len (by omega) (by omega) w
    have HL := hide hl
    have HS : Hid (∀ x, Below w.heap.size w x → SliceAt B x (some ad) (zs.map (Value.int .i64))) := fun x hx => hs.kept (hx.mono hB)
    clear hs hn hl
    go_enter Try.func15, Try.ntmps15
    go_wp2_with fail
    clear hmk hnil
    go_loopw [4] (fun i wr => ∃ k : Nat, k ≤ len ∧ i = .int .i64 k ∧ Hid (RowIs wr w.heap.size 2 ((fill (zs.take k) len 0).map (Value.int .i64))) ∧ Hid (Below w.heap.size w wr)) (fun i _ => len - (intOf i).toNat)
    case atStart => exact ⟨0, Nat.zero_le _, rfl, by show RowIs _ _ _ _; rw [List.take_zero, fill_nil, List.map_replicate]; exact RowIs.made w 2 _, (Below.refl _ _).alloc (Nat.le_refl _) _⟩
    case round =>
      obtain ⟨k, hk, rfl, HR, HBe⟩ := hrel
      by_cases hlt : k < len
      · have hkl : k < zs.length := by rw [HL.out]; exact hlt
        obtain ⟨b, off, e, hbB, k1⟩ := (HS.out wr HBe.out).cell (i := k) (by simpa using hkl)
        simp only [Option.some.injEq] at e
        subst e
        obtain ⟨x, hx⟩ : ∃ x, x = zs[k] := ⟨_, rfl⟩
        have hg : (zs.map (Value.int .i64)).getD k undef = (.int .i64 x) := by rw [List.getD_eq_getElem?_getD, List.getElem?_map, List.getElem?_eq_getElem hkl, hx]; rfl
        rw [hg] at k1
        have hlf : ((fill (zs.take k) len 0).map (Value.int .i64)).length = len := by rw [List.length_map, fill_length (by simp; omega)]
        have k2 := HR.out.cellD (i := k) (by rw [hlf]; exact hlt) undef
        obtain ⟨o, ho⟩ : ∃ o, o = ((fill (zs.take k) len 0).map (Value.int .i64)).getD k undef := ⟨_, rfl⟩
        rw [← ho] at k2
        have f2 := HR.out.free k
        have HR2 : Hid (RowIs (wr.setCell ⟨w.heap.size, k, none⟩ (.int .i64 x)) w.heap.size 2 ((fill (zs.take (k + 1)) len 0).map (Value.int .i64))) := by
          have h1 := HR.out.set k (.int .i64 x)
          have h2 : (fill (zs.take k) len 0).set k x = fill (zs.take (k + 1)) len 0 := by
            have h3 := fill_set (xs := zs.take k) (n := len) (by simp; omega) 0 x
            rw [List.length_take, Nat.min_eq_left (by omega)] at h3
            rw [h3, List.take_succ_eq_append_getElem hkl, hx]
          rw [← List.map_set, h2] at h1
          exact h1
        have HB2 := hide (HBe.out.setCell (p := ⟨w.heap.size, k, none⟩) (Nat.le_refl _) (.int .i64 x))
        clear hg hlf ho hx HR HBe
        go_wp2_with fail
        go_roundw
        case rel => exact ⟨k + 1, by omega, by go_num, HR2, HB2⟩
        case measure => simp [intOf]; omega
      · have HR2 : Hid (RowIs wr w.heap.size 2 (zs.map (Value.int .i64))) := by
          have h1 := HR.out
          rw [show k = len by omega, List.take_of_length_le (by rw [HL.out]; omega), fill_full HL.out] at h1
          exact h1
        clear HR
        go_wp2_with fail
        go_ret
        exact Or.inr ⟨rfl, HR2.out, HBe.out⟩

theorem Try.info5_16 : (Try.prog.info? 5).map (fun i => (i.zero, i.size, i.bytes)) = some (some (.int .u8 0), 1, 1) := by kernel_rfl
set_option maxRecDepth 100000 in
set_option maxHeartbeats 800000 in
/-- cloneUint8s -/
theorem clone16 (B : Nat) (a : Option Addr) (len cap : Nat) (zs : List Int) (w : World) (hs : SliceAt B w a (zs.map (Value.int .u8))) (hB : B ≤ w.heap.size) (hl : zs.length = len) (hn : a = none → len = 0) (hsz : len ≤ 1048576) :
    Calls Try.prog 16 #[.slice a len cap] w (ClonePost w 5 len (zs.map (Value.int .u8))) := by
  have hnil := fun w => Lib.run_eql_slice_nil (P := Try.prog) w 28 5 a len cap 0 0 Try.underlying28
  cases a with
  | none =>
    have h0 := hn rfl
    have HE : Hid (len = 0 ∧ zs.map (Value.int .u8) = []) := ⟨h0, by rw [List.map_eq_nil_iff]; exact List.length_eq_zero_iff.1 (by omega)⟩
    clear hs hn h0
    go_enter Try.func16, Try.ntmps16
    go_wp2_with fail
    go_ret
    exact Or.inl ⟨rfl, rfl, HE.out.1, HE.out.2⟩
  | some ad =>
    have hmk := fun w => make_row (P := Try.prog) 28 5 (.int .u8 0) 1 Try.underlying28 Try.info5_16 rfl len (by omega) (by omega) w
    have HL := hide hl
    have HS : Hid (∀ x, Below w.heap.size w x → SliceAt B x (some ad) (zs.map (Value.int .u8))) := fun x hx => hs.kept (hx.mono hB)
    clear hs hn hl
    go_enter Try.func16, Try.ntmps16
    go_wp2_with fail
    clear hmk hnil
    go_loopw [4] (fun i wr => ∃ k : Nat, k ≤ len ∧ i = .int .i64 k ∧ Hid (RowIs wr w.heap.size 5 ((fill (zs.take k) len 0).map (Value.int .u8))) ∧ Hid (Below w.heap.size w wr)) (fun i _ => len - (intOf i).toNat)
    case atStart => exact ⟨0, Nat.zero_le _, rfl, by show RowIs _ _ _ _; rw [List.take_zero, fill_nil, List.map_replicate]; exact RowIs.made w 5 _, (Below.refl _ _).alloc (Nat.le_refl _) _⟩
    case round =>
      obtain ⟨k, hk, rfl, HR, HBe⟩ := hrel
      by_cases hlt : k < len
      · have hkl : k < zs.length := by rw [HL.out]; exact hlt
        obtain ⟨b, off, e, hbB, k1⟩ := (HS.out wr HBe.out).cell (i := k) (by simpa using hkl)
        simp only [Option.some.injEq] at e
        subst e
        obtain ⟨x, hx⟩ : ∃ x, x = zs[k] := ⟨_, rfl⟩
        have hg : (zs.map (Value.int .u8)).getD k undef = (.int .u8 x) := by rw [List.getD_eq_getElem?_getD, List.getElem?_map, List.getElem?_eq_getElem hkl, hx]; rfl
        rw [hg] at k1
        have hlf : ((fill (zs.take k) len 0).map (Value.int .u8)).length = len := by rw [List.length_map, fill_length (by simp; omega)]
        have k2 := HR.out.cellD (i := k) (by rw [hlf]; exact hlt) undef
        obtain ⟨o, ho⟩ : ∃ o, o = ((fill (zs.take k) len 0).map (Value.int .u8)).getD k undef := ⟨_, rfl⟩
        rw [← ho] at k2
        have f2 := HR.out.free k
        have HR2 : Hid (RowIs (wr.setCell ⟨w.heap.size, k, none⟩ (.int .u8 x)) w.heap.size 5 ((fill (zs.take (k + 1)) len 0).map (Value.int .u8))) := by
          have h1 := HR.out.set k (.int .u8 x)
          have h2 : (fill (zs.take k) len 0).set k x = fill (zs.take (k + 1)) len 0 := by
            have h3 := fill_set (xs := zs.take k) (n := len) (by simp; omega) 0 x
            rw [List.length_take, Nat.min_eq_left (by omega)] at h3
            rw [h3, List.take_succ_eq_append_getElem hkl, hx]
          rw [← List.map_set, h2] at h1
          exact h1
        have HB2 := hide (HBe.out.setCell (p := ⟨w.heap.size, k, none⟩) (Nat.le_refl _) (.int .u8 x))
        clear hg hlf ho hx HR HBe
        go_wp2_with fail
        go_roundw
        case rel => exact ⟨k + 1, by omega, by go_num, HR2, HB2⟩
        case measure => simp [intOf]; omega
      · have HR2 : Hid (RowIs wr w.heap.size 5 (zs.map (Value.int .u8))) := by
          have h1 := HR.out
          rw [show k = len by omega, List.take_of_length_le (by rw [HL.out]; omega), fill_full HL.out] at h1
          exact h1
        clear HR
        go_wp2_with fail
        go_ret
        exact Or.inr ⟨rfl, HR2.out, HBe.out⟩

end Go.Proofs.Qxb6001672a
