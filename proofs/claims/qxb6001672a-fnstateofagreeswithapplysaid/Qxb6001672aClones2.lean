/-
  Seat b6001672a: cloneU8, zzToStates, zzFromStates, walked.
-/
import Derived.Test.Qxb6001672aClones
namespace Go.Proofs.Qxb6001672a
open Go.RowKit

theorem Try.info5_40 : (Try.prog.info? 5).map (fun i => (i.zero, i.size, i.bytes)) = some (some (.int .u8 0), 1, 1) := by kernel_rfl
set_option maxRecDepth 100000 in
set_option maxHeartbeats 800000 in
/-- cloneU8 -/
theorem clone40 (B : Nat) (a : Option Addr) (len cap : Nat) (zs : List Int) (w : World) (hs : SliceAt B w a (zs.map (Value.int .u8))) (hB : B ≤ w.heap.size) (hl : zs.length = len) (hn : a = none → len = 0) (hsz : len ≤ 1048576) :
    Calls Try.prog 40 #[.slice a len cap] w (ClonePost w 5 len (zs.map (Value.int .u8))) := by
  have hnil := fun w => Lib.run_eql_slice_nil (P := Try.prog) w 28 5 a len cap 0 0 Try.underlying28
  cases a with
  | none =>
    have h0 := hn rfl
    have HE : Hid (len = 0 ∧ zs.map (Value.int .u8) = []) := ⟨h0, by rw [List.map_eq_nil_iff]; exact List.length_eq_zero_iff.1 (by omega)⟩
    clear hs hn h0
    go_enter Try.func40, Try.ntmps40
    go_wp2_with fail
    go_ret
    exact Or.inl ⟨rfl, rfl, HE.out.1, HE.out.2⟩
  | some ad =>
    have hmk := fun w => make_row (P := Try.prog) 28 5 (.int .u8 0) 1 Try.underlying28 Try.info5_40 rfl len (by omega) (by omega) w
    have HL := hide hl
    have HS : Hid (∀ x, Below w.heap.size w x → SliceAt B x (some ad) (zs.map (Value.int .u8))) := fun x hx => hs.kept (hx.mono hB)
    clear hs hn hl
    go_enter Try.func40, Try.ntmps40
    go_wp2_with fail
    clear hmk hnil
    go_loopw [12] (fun i wr => ∃ k : Nat, k ≤ len ∧ i = .int .i64 k ∧ Hid (RowIs wr w.heap.size 5 ((fill (zs.take k) len 0).map (Value.int .u8))) ∧ Hid (Below w.heap.size w wr)) (fun i _ => len - (intOf i).toNat)
    case atStart => exact ⟨0, Nat.zero_le _, rfl, by show RowIs _ _ _ _; rw [List.take_zero, fill_nil, List.map_replicate]; exact RowIs.made w 5 _, (Below.refl _ _).alloc (Nat.le_refl _) _⟩
    case round =>
      obtain ⟨k, hk, rfl, HR, HBe⟩ := hrel
      by_cases hlt : k < len
      · have hkl : k < zs.length := by rw [HL.out]; exact hlt
        obtain ⟨b, off, e, hbB, k1⟩ := (HS.out wr HBe.out).cell (i := k) (by simpa using hkl)
        simp only [Option.some.injEq] at e
        subst e
        obtain ⟨x, hx⟩ : ∃ x, x = zs[k] := ⟨_, rfl⟩
        have hg : (zs.map (Value.int .u8)).getD k undef = (.int .u8 x) := by rw [List.getD_eq_getElem?_getD, List.getElem?_map, List.getElem?_eq_getElem hkl, hx]; rfl
        rw [hg] at k1
        have hlf : ((fill (zs.take k) len 0).map (Value.int .u8)).length = len := by rw [List.length_map, fill_length (by simp; omega)]
        have k2 := HR.out.cellD (i := k) (by rw [hlf]; exact hlt) undef
        obtain ⟨o, ho⟩ : ∃ o, o = ((fill (zs.take k) len 0).map (Value.int .u8)).getD k undef := ⟨_, rfl⟩
        rw [← ho] at k2
        have f2 := HR.out.free k
        have HR2 : Hid (RowIs (wr.setCell ⟨w.heap.size, k, none⟩ (.int .u8 x)) w.heap.size 5 ((fill (zs.take (k + 1)) len 0).map (Value.int .u8))) := by
          have h1 := HR.out.set k (.int .u8 x)
          have h2 : (fill (zs.take k) len 0).set k x = fill (zs.take (k + 1)) len 0 := by
            have h3 := fill_set (xs := zs.take k) (n := len) (by simp; omega) 0 x
            rw [List.length_take, Nat.min_eq_left (by omega)] at h3
            rw [h3, List.take_succ_eq_append_getElem hkl, hx]
          rw [← List.map_set, h2] at h1
          exact h1
        have HB2 := hide (HBe.out.setCell (p := ⟨w.heap.size, k, none⟩) (Nat.le_refl _) (.int .u8 x))
        clear hg hlf ho hx HR HBe
        go_wp2_with fail
        go_roundw
        case rel => exact ⟨k + 1, by omega, by go_num, HR2, HB2⟩
        case measure => simp [intOf]; omega
      · have HR2 : Hid (RowIs wr w.heap.size 5 (zs.map (Value.int .u8))) := by
          have h1 := HR.out
          rw [show k = len by omega, List.take_of_length_le (by rw [HL.out]; omega), fill_full HL.out] at h1
          exact h1
        clear HR
        go_wp2_with fail
        go_ret
        exact Or.inr ⟨rfl, HR2.out, HBe.out⟩

theorem Try.info86_58 : (Try.prog.info? 86).map (fun i => (i.zero, i.size, i.bytes)) = some (some (.int .u8 0), 1, 1) := by kernel_rfl
set_option maxRecDepth 100000 in
set_option maxHeartbeats 800000 in
/-- zzToStates -/
theorem clone58 (B : Nat) (a : Option Addr) (len cap : Nat) (zs : List Int) (w : World) (hs : SliceAt B w a (zs.map (Value.int .u8))) (hB : B ≤ w.heap.size) (hl : zs.length = len) (hn : a = none → len = 0) (hsz : len ≤ 1048576) :
    Calls Try.prog 58 #[.slice a len cap] w (ClonePost w 86 len (zs.map (Value.int .u8))) := by
  have hnil := fun w => Lib.run_eql_slice_nil (P := Try.prog) w 28 5 a len cap 0 0 Try.underlying28
  cases a with
  | none =>
    have h0 := hn rfl
    have HE : Hid (len = 0 ∧ zs.map (Value.int .u8) = []) := ⟨h0, by rw [List.map_eq_nil_iff]; exact List.length_eq_zero_iff.1 (by omega)⟩
    clear hs hn h0
    go_enter Try.func58, Try.ntmps58
    go_wp2_with fail
    go_ret
    exact Or.inl ⟨rfl, rfl, HE.out.1, HE.out.2⟩
  | some ad =>
    have hmk := fun w => make_row (P := Try.prog) 85 86 (.int .u8 0) 1 Try.underlying85 Try.info86_58 rfl len (by omega) (by omega) w
    have HL := hide hl
    have HS : Hid (∀ x, Below w.heap.size w x → SliceAt B x (some ad) (zs.map (Value.int .u8))) := fun x hx => hs.kept (hx.mono hB)
    clear hs hn hl
    go_enter Try.func58, Try.ntmps58
    go_wp2_with fail
    clear hmk hnil
    go_loopw [12] (fun i wr => ∃ k : Nat, k ≤ len ∧ i = .int .i64 k ∧ Hid (RowIs wr w.heap.size 86 ((fill (zs.take k) len 0).map (Value.int .u8))) ∧ Hid (Below w.heap.size w wr)) (fun i _ => len - (intOf i).toNat)
    case atStart => exact ⟨0, Nat.zero_le _, rfl, by show RowIs _ _ _ _; rw [List.take_zero, fill_nil, List.map_replicate]; exact RowIs.made w 86 _, (Below.refl _ _).alloc (Nat.le_refl _) _⟩
    case round =>
      obtain ⟨k, hk, rfl, HR, HBe⟩ := hrel
      by_cases hlt : k < len
      · have hkl : k < zs.length := by rw [HL.out]; exact hlt
        obtain ⟨b, off, e, hbB, k1⟩ := (HS.out wr HBe.out).cell (i := k) (by simpa using hkl)
        simp only [Option.some.injEq] at e
        subst e
        obtain ⟨x, hx⟩ : ∃ x, x = zs[k] := ⟨_, rfl⟩
        have hg : (zs.map (Value.int .u8)).getD k undef = (.int .u8 x) := by rw [List.getD_eq_getElem?_getD, List.getElem?_map, List.getElem?_eq_getElem hkl, hx]; rfl
        rw [hg] at k1
        have hlf : ((fill (zs.take k) len 0).map (Value.int .u8)).length = len := by rw [List.length_map, fill_length (by simp; omega)]
        have k2 := HR.out.cellD (i := k) (by rw [hlf]; exact hlt) undef
        obtain ⟨o, ho⟩ : ∃ o, o = ((fill (zs.take k) len 0).map (Value.int .u8)).getD k undef := ⟨_, rfl⟩
        rw [← ho] at k2
        have f2 := HR.out.free k
        have HR2 : Hid (RowIs (wr.setCell ⟨w.heap.size, k, none⟩ (.int .u8 x)) w.heap.size 86 ((fill (zs.take (k + 1)) len 0).map (Value.int .u8))) := by
          have h1 := HR.out.set k (.int .u8 x)
          have h2 : (fill (zs.take k) len 0).set k x = fill (zs.take (k + 1)) len 0 := by
            have h3 := fill_set (xs := zs.take k) (n := len) (by simp; omega) 0 x
            rw [List.length_take, Nat.min_eq_left (by omega)] at h3
            rw [h3, List.take_succ_eq_append_getElem hkl, hx]
          rw [← List.map_set, h2] at h1
          exact h1
        have HB2 := hide (HBe.out.setCell (p := ⟨w.heap.size, k, none⟩) (Nat.le_refl _) (.int .u8 x))
        clear hg hlf ho hx HR HBe
        go_wp2_with fail
        go_roundw
        case rel => exact ⟨k + 1, by omega, by go_num, HR2, HB2⟩
        case measure => simp [intOf]; omega
      · have HR2 : Hid (RowIs wr w.heap.size 86 (zs.map (Value.int .u8))) := by
          have h1 := HR.out
          rw [show k = len by omega, List.take_of_length_le (by rw [HL.out]; omega), fill_full HL.out] at h1
          exact h1
        clear HR
        go_wp2_with fail
        go_ret
        exact Or.inr ⟨rfl, HR2.out, HBe.out⟩

theorem Try.info5_60 : (Try.prog.info? 5).map (fun i => (i.zero, i.size, i.bytes)) = some (some (.int .u8 0), 1, 1) := by kernel_rfl
set_option maxRecDepth 100000 in
set_option maxHeartbeats 800000 in
/-- zzFromStates -/
theorem clone60 (B : Nat) (a : Option Addr) (len cap : Nat) (zs : List Int) (w : World) (hs : SliceAt B w a (zs.map (Value.int .u8))) (hB : B ≤ w.heap.size) (hl : zs.length = len) (hn : a = none → len = 0) (hsz : len ≤ 1048576) :
    Calls Try.prog 60 #[.slice a len cap] w (ClonePost w 5 len (zs.map (Value.int .u8))) := by
  have hnil := fun w => Lib.run_eql_slice_nil (P := Try.prog) w 85 86 a len cap 0 0 Try.underlying85
  cases a with
  | none =>
    have h0 := hn rfl
    have HE : Hid (len = 0 ∧ zs.map (Value.int .u8) = []) := ⟨h0, by rw [List.map_eq_nil_iff]; exact List.length_eq_zero_iff.1 (by omega)⟩
    clear hs hn h0
    go_enter Try.func60, Try.ntmps60
    go_wp2_with fail
    go_ret
    exact Or.inl ⟨rfl, rfl, HE.out.1, HE.out.2⟩
  | some ad =>
    have hmk := fun w => make_row (P := Try.prog) 28 5 (.int .u8 0) 1 Try.underlying28 Try.info5_60 rfl len (by omega) (by omega) w
    have HL := hide hl
    have HS : Hid (∀ x, Below w.heap.size w x → SliceAt B x (some ad) (zs.map (Value.int .u8))) := fun x hx => hs.kept (hx.mono hB)
    clear hs hn hl
    go_enter Try.func60, Try.ntmps60
    go_wp2_with fail
    clear hmk hnil
    go_loopw [12] (fun i wr => ∃ k : Nat, k ≤ len ∧ i = .int .i64 k ∧ Hid (RowIs wr w.heap.size 5 ((fill (zs.take k) len 0).map (Value.int .u8))) ∧ Hid (Below w.heap.size w wr)) (fun i _ => len - (intOf i).toNat)
    case atStart => exact ⟨0, Nat.zero_le _, rfl, by show RowIs _ _ _ _; rw [List.take_zero, fill_nil, List.map_replicate]; exact RowIs.made w 5 _, (Below.refl _ _).alloc (Nat.le_refl _) _⟩
    case round =>
      obtain ⟨k, hk, rfl, HR, HBe⟩ := hrel
      by_cases hlt : k < len
      · have hkl : k < zs.length := by rw [HL.out]; exact hlt
        obtain ⟨b, off, e, hbB, k1⟩ := (HS.out wr HBe.out).cell (i := k) (by simpa using hkl)
        simp only [Option.some.injEq] at e
        subst e
        obtain ⟨x, hx⟩ : ∃ x, x = zs[k] := ⟨_, rfl⟩
        have hg : (zs.map (Value.int .u8)).getD k undef = (.int .u8 x) := by rw [List.getD_eq_getElem?_getD, List.getElem?_map, List.getElem?_eq_getElem hkl, hx]; rfl
        rw [hg] at k1
        have hlf : ((fill (zs.take k) len 0).map (Value.int .u8)).length = len := by rw [List.length_map, fill_length (by simp; omega)]
        have k2 := HR.out.cellD (i := k) (by rw [hlf]; exact hlt) undef
        obtain ⟨o, ho⟩ : ∃ o, o = ((fill (zs.take k) len 0).map (Value.int .u8)).getD k undef := ⟨_, rfl⟩
        rw [← ho] at k2
        have f2 := HR.out.free k
        have HR2 : Hid (RowIs (wr.setCell ⟨w.heap.size, k, none⟩ (.int .u8 x)) w.heap.size 5 ((fill (zs.take (k + 1)) len 0).map (Value.int .u8))) := by
          have h1 := HR.out.set k (.int .u8 x)
          have h2 : (fill (zs.take k) len 0).set k x = fill (zs.take (k + 1)) len 0 := by
            have h3 := fill_set (xs := zs.take k) (n := len) (by simp; omega) 0 x
            rw [List.length_take, Nat.min_eq_left (by omega)] at h3
            rw [h3, List.take_succ_eq_append_getElem hkl, hx]
          rw [← List.map_set, h2] at h1
          exact h1
        have HB2 := hide (HBe.out.setCell (p := ⟨w.heap.size, k, none⟩) (Nat.le_refl _) (.int .u8 x))
        clear hg hlf ho hx HR HBe
        go_wp2_with fail
        go_roundw
        case rel => exact ⟨k + 1, by omega, by go_num, HR2, HB2⟩
        case measure => simp [intOf]; omega
      · have HR2 : Hid (RowIs wr w.heap.size 5 (zs.map (Value.int .u8))) := by
          have h1 := HR.out
          rw [show k = len by omega, List.take_of_length_le (by rw [HL.out]; omega), fill_full HL.out] at h1
          exact h1
        clear HR
        go_wp2_with fail
        go_ret
        exact Or.inr ⟨rfl, HR2.out, HBe.out⟩

end Go.Proofs.Qxb6001672a
