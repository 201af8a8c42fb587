/-
  Seat b6001672a: ZZNewIntValues, ZZStates, walked.
-/
import Derived.Test.Qxb6001672aInts
namespace Go.Proofs.Qxb6001672a
open Go.RowKit

/-- the next place of a row that is filled from its head on -/
theorem fillrow_step {wr : World} {g : Nat} {e : TypeId} {len j : Nat} {zs : List Int} {kk : IntKind} {x : Int} (h : RowIs wr g e ((fill (zs.take j) len 0).map (Value.int kk))) (hj : j < zs.length) (hl : zs.length = len) (hx : zs[j] = x) :
    RowIs (wr.setCell ⟨g, j, none⟩ (.int kk x)) g e ((fill (zs.take (j + 1)) len 0).map (Value.int kk)) := by
  have h1 := h.set j (.int kk x)
  have h2 : (fill (zs.take j) len 0).set j x = fill (zs.take (j + 1)) len 0 := by
    have h3 := fill_set (xs := zs.take j) (n := len) (by simp; omega) 0 x
    rw [List.length_take, Nat.min_eq_left (by omega)] at h3
    rw [h3, List.take_succ_eq_append_getElem hj, hx]
  rw [← List.map_set, h2] at h1
  exact h1
theorem fillrow_cell {wr : World} {g : Nat} {e : TypeId} {len j : Nat} {zs : List Int} {kk : IntKind} (h : RowIs wr g e ((fill (zs.take j) len 0).map (Value.int kk))) (hj : j < len) : ∃ o, wr.cell? ⟨g, j, none⟩ = some o :=
  ⟨_, h.cellD (i := j) (by rw [List.length_map, fill_length (by simp; omega)]; exact hj) undef⟩
theorem fillrow_full {wr : World} {g : Nat} {e : TypeId} {len j : Nat} {zs : List Int} {kk : IntKind} (h : RowIs wr g e ((fill (zs.take j) len 0).map (Value.int kk))) (hl : zs.length = len) (hj : j = len) : RowIs wr g e (zs.map (Value.int kk)) := by
  rw [hj, List.take_of_length_le (by omega), fill_full hl] at h
  exact h
theorem fillrow_start (w : World) (e : TypeId) (len : Nat) (zs : List Int) (kk : IntKind) : RowIs (w.alloc (.cells (Array.replicate len (.int kk 0)) e)) w.heap.size e ((fill (zs.take 0) len 0).map (Value.int kk)) := by
  rw [List.take_zero, fill_nil, List.map_replicate]
  have h := RowIs.made w e (List.replicate len (.int kk 0))
  simpa using h
theorem getD_map_int {zs : List Int} {kk : IntKind} {j : Nat} {x : Int} (hj : j < zs.length) (hx : zs[j] = x) : (zs.map (Value.int kk)).getD j undef = .int kk x := by
  rw [List.getD_eq_getElem?_getD, List.getElem?_map, List.getElem?_eq_getElem hj, hx]
  rfl

set_option maxRecDepth 100000 in
set_option maxHeartbeats 1600000 in
theorem newInts_any (B : Nat) (av a : Option Addr) (lv cv len cap : Nat) (us : List Int) (p : Bool) (w : World) (hs : SliceAt B w a (us.map (Value.int .u8))) (hB : B ≤ w.heap.size) (hl : us.length = len) (hn : a = none → len = 0) (hsz : len ≤ 1048576) :
    Calls Try.prog 17 #[.slice av lv cv, .slice a len cap, .bool p] w fun e w' => ∃ g sa, e = .returned (.pointer (some ⟨g, 0, none⟩)) ∧ IV w' w.heap.size g (.slice av lv cv) sa us p ∧ Below w.heap.size w w' := by
  have hnil := fun w => Go.run_neq_slice_nil (P := Try.prog) (w := w) 28 5 a len cap Try.underlying28
  cases a with
  | none =>
    have HE : Hid (us = []) := List.length_eq_zero_iff.1 (by rw [hl]; exact hn rfl)
    have h0 := hn rfl
    subst h0
    have HR : Hid (RowIs (w.alloc (.cells #[.slice av lv cv, .slice none 0 0, .bool p, .int .i64 0, .int .u8 0] 90)) w.heap.size 90 [.slice av lv cv, .slice none 0 0, .bool p, .int .i64 0, .int .u8 0]) := RowIs.made w 90 _
    clear hs hn hl
    go_enter Try.func17, Try.ntmps17
    go_wp2_with fail
    go_ret
    refine ⟨w.heap.size, none, rfl, ?_, (Below.refl _ _).alloc (Nat.le_refl _) _⟩
    rw [HE.out]
    exact ⟨HR.out, Nat.le_refl _, Or.inl ⟨rfl, rfl⟩⟩
  | some ad =>
    have hmk := fun w => make_row (P := Try.prog) 85 86 (.int .u8 0) 1 Try.underlying85 Try.info86 rfl len (by omega) (by omega) w
    have HL := hide hl
    have HS : Hid (∀ x, Below w.heap.size w x → SliceAt B x (some ad) (us.map (Value.int .u8))) := fun x hx => hs.kept (hx.mono hB)
    clear hs hn hl
    go_enter Try.func17, Try.ntmps17
    go_wp2_with fail
    clear hmk hnil
    go_loopw [8] (fun i wr => ∃ k : Nat, k ≤ len ∧ i = .int .i64 k ∧ Hid (RowIs wr w.heap.size 86 ((fill (us.take k) len 0).map (Value.int .u8))) ∧ Hid (Below w.heap.size w wr)) (fun i _ => len - (intOf i).toNat)
    case atStart => exact ⟨0, Nat.zero_le _, rfl, fillrow_start w 86 len us .u8, (Below.refl _ _).alloc (Nat.le_refl _) _⟩
    case round =>
      obtain ⟨k, hk, rfl, HR, HBe⟩ := hrel
      by_cases hlt : k < len
      · have hkl : k < us.length := by rw [HL.out]; exact hlt
        obtain ⟨b, off, e, hbB, k1⟩ := (HS.out wr HBe.out).cell (i := k) (by simpa using hkl)
        simp only [Option.some.injEq] at e
        subst e
        obtain ⟨x, hx⟩ : ∃ x, us[k] = x := ⟨_, rfl⟩
        rw [getD_map_int hkl hx] at k1
        obtain ⟨o, k2⟩ := fillrow_cell HR.out hlt
        have f2 := HR.out.free k
        have HR2 := hide (fillrow_step HR.out hkl HL.out hx)
        have HB2 := hide (HBe.out.setCell (p := ⟨w.heap.size, k, none⟩) (Nat.le_refl _) (.int .u8 x))
        clear hx HR HBe
        go_wp2_with fail
        go_roundw
        case rel => exact ⟨k + 1, by omega, by go_num, HR2, HB2⟩
        case measure => simp [intOf]; omega
      · have HR2 := hide (fillrow_full HR.out HL.out (by omega))
        have HW : Hid (IV (wr.alloc (.cells #[.slice av lv cv, .slice (some ⟨w.heap.size, 0, none⟩) len len, .bool p, .int .i64 0, .int .u8 0] 90)) w.heap.size wr.heap.size (.slice av lv cv) (some ⟨w.heap.size, 0, none⟩) us p) := by
          refine ⟨?_, HBe.out.size, Or.inr ⟨w.heap.size, rfl, ?_, Nat.le_refl _, HR2.out.alloc _⟩⟩
          · rw [HL.out]
            exact RowIs.made wr 90 _
          · exact Nat.ne_of_lt HR2.out.lt
        clear HR
        go_wp2_with fail
        go_ret
        exact ⟨wr.heap.size, _, rfl, HW.out, HBe.out.alloc HBe.out.size _⟩

/-- what ZZStates leaves -/
def StPost (w : World) (B g : Nat) (vals : Value) (sa : Option Addr) (us : List Int) (p : Bool) (e : Ending) (w' : World) : Prop :=
  ∃ a', e = .returned (.slice a' us.length us.length) ∧ ((a' = none ∧ us = []) ∨ ∃ g', a' = some ⟨g', 0, none⟩ ∧ w.heap.size ≤ g' ∧ RowIs w' g' 5 ((stz p us).map (Value.int .u8))) ∧ IV w' B g vals sa (stz p us) p ∧ KB sa w w'

set_option maxRecDepth 100000 in
set_option maxHeartbeats 1600000 in
theorem zzStates_any (g B : Nat) (vals : Value) (sa : Option Addr) (us : List Int) (p : Bool) (w : World) (h : IV w B g vals sa us p) (hsz : us.length ≤ 1048576) :
    Calls Try.prog 18 #[.pointer (some ⟨g, 0, none⟩)] w (StPost w B g vals sa us p) := by
  have HC := hide (states_any g B vals sa us p w h)
  obtain ⟨len, hlen⟩ : ∃ len, len = us.length := ⟨_, rfl⟩
  have HLz : Hid ((stz p us).length = len) := by rw [hlen]; exact stz_length p us
  have hnil := fun w => Lib.run_eql_slice_nil (P := Try.prog) w 85 86 sa len len 0 0 Try.underlying85
  have hst : (sa = none ∧ us = []) ∨ ∃ gs, sa = some ⟨gs, 0, none⟩ := by
    rcases h.st with q | ⟨gs, e, _⟩
    · exact Or.inl q
    · exact Or.inr ⟨gs, e⟩
  unfold StPost
  rw [← hlen] at HC hsz ⊢
  obtain ⟨us', hus⟩ : ∃ us', us' = stz p us := ⟨_, rfl⟩
  rw [← hus] at HC HLz ⊢
  have HLe := hide hlen
  clear h hus hlen
  rcases hst with ⟨hsa, hu⟩ | ⟨gs, hsa⟩
  · subst hsa
    have HU := hide hu
    have hl0 : len = 0 := by rw [HLe.out, hu]; rfl
    subst hl0
    clear hu
    go_enter Try.func18, Try.ntmps18
    go_wp2_with fail
    refine HC.out.mono ?_
    rintro e w1 ⟨rfl, h1, h2⟩
    have HI := hide h1
    have HK := hide h2
    clear h1 h2 HC
    go_wp2_with fail
    go_ret
    exact ⟨none, rfl, Or.inl ⟨rfl, HU.out⟩, HI.out, HK.out⟩
  · subst hsa
    have hmk := fun w => make_row (P := Try.prog) 28 5 (.int .u8 0) 1 Try.underlying28 Try.info5_16 rfl len (by omega) (by omega) w
    go_enter Try.func18, Try.ntmps18
    go_wp2_with fail
    refine HC.out.mono ?_
    rintro e w1 ⟨rfl, h1, h2⟩
    have HI := hide h1
    have HK := hide h2
    clear h1 h2 HC
    go_wp2_with fail
    clear hmk hnil
    go_loopw [5] (fun i wr => ∃ k : Nat, k ≤ len ∧ i = .int .i64 k ∧ Hid (RowIs wr w1.heap.size 5 ((fill (us'.take k) len 0).map (Value.int .u8))) ∧ Hid (Below w1.heap.size w1 wr)) (fun i _ => len - (intOf i).toNat)
    case atStart => exact ⟨0, Nat.zero_le _, rfl, fillrow_start w1 5 len us' .u8, (Below.refl _ _).alloc (Nat.le_refl _) _⟩
    case round =>
      obtain ⟨k, hk, rfl, HR, HBe⟩ := hrel
      by_cases hlt : k < len
      · have hkl : k < us'.length := by rw [HLz.out]; exact hlt
        obtain ⟨x, hx⟩ : ∃ x, us'[k] = x := ⟨_, rfl⟩
        have k1 : wr.cell? ⟨gs, k, none⟩ = some (.int .u8 x) := by
          rcases HI.out.st with ⟨q, _⟩ | ⟨gs', e, _, _, q⟩
          · cases q
          · simp only [Option.some.injEq, Addr.mk.injEq, and_true] at e
            subst e
            rw [HBe.out.cell (p := ⟨gs, k, none⟩) q.lt, q.cellD (i := k) (by simpa using hkl) undef, getD_map_int hkl hx]
        obtain ⟨o, k2⟩ := fillrow_cell HR.out hlt
        have f2 := HR.out.free k
        have HR2 := hide (fillrow_step HR.out hkl HLz.out hx)
        have HB2 := hide (HBe.out.setCell (p := ⟨w1.heap.size, k, none⟩) (Nat.le_refl _) (.int .u8 x))
        clear hx HR HBe
        go_wp2_with fail
        go_roundw
        case rel => exact ⟨k + 1, by omega, by go_num, HR2, HB2⟩
        case measure => simp [intOf]; omega
      · have HR2 := hide (fillrow_full HR.out HLz.out (by omega))
        clear HR
        go_wp2_with fail
        go_ret
        refine ⟨_, rfl, Or.inr ⟨w1.heap.size, rfl, HK.out.base.size, HR2.out⟩, ?_, HK.out.trans (KB.of_below HBe.out)⟩
        refine HI.out.kept (HBe.out.block _ HI.out.row.lt) (fun gs' _ hlt => HBe.out.block _ hlt)

end Go.Proofs.Qxb6001672a
