/-
  Seat b6001672a: ZZRowOrder, keyed, walked.
-/
import Derived.Test.Qxb6001672aClones
import Derived.Deep.RegionHeld3
import Derived.Deep.QuietTactic
import Derived.BigQuiet
import Derived.WalkSmall
namespace Go.Proofs.Qxb6001672a
open Go.RowKit

theorem Try.info95 : (Try.prog.info? 95).map (fun i => (i.zero, i.size, i.bytes)) = some (some (.agg #[.int .i64 0, .bool false]), 2, 16) := by kernel_rfl

/-- make([]orderColumn, n) -/
theorem make_orders (n : Nat) (hn : n ≤ 1048577) : ∃ xs : List Value, xs.length = n * 2 ∧ ∀ w : World, (Instr.makeSlice 42 (.int .i64 n) (.int .i64 n)).run Try.prog w = .ok (.slice (some ⟨w.heap.size, 0, none⟩) n n) (w.alloc (.cells xs.toArray 95)) := by
  obtain ⟨i, h2, h3, h4, h5⟩ := info_parts Try.info95
  refine ⟨(madeCells (Value.agg #[.int .i64 0, .bool false]).cells (n * 2)).toList, by simp [madeCells], fun w => ?_⟩
  have h := run_make w 42 95 i _ Try.underlying42 h2 h3 .i64 .i64 (n : Int) (n : Int) (by omega) (by omega) (by rw [h5]; omega) (by omega)
  simp only [Int.toNat_natCast, h4] at h
  rw [h]

/-- what ZZRowOrder leaves: a new order, its first item known -/
def OrderPost (w : World) (m : Nat) (c0 : Int) (d0 : Bool) (off cnt : Int) (e : Ending) (w' : World) : Prop :=
  ∃ g, e = .returned (.agg #[.slice (some ⟨g, 0, none⟩) m m, .int .i64 off, .int .i64 cnt]) ∧ g < w'.heap.size ∧ (0 < m → w'.cell? ⟨g, 0, none⟩ = some (.int .i64 c0) ∧ w'.cell? ⟨g, 1, none⟩ = some (.bool d0)) ∧ Below w.heap.size w w'

/-- what holds in ZZRowOrder's loop -/
structure OInv (w wr : World) (m k : Nat) (c0 : Int) (d0 : Bool) : Prop where
  row : ∃ xs, RowIs wr (w.heap.size + 1) 95 xs ∧ xs.length = m * 2 ∧ (0 < k → xs[0]? = some (.int .i64 c0) ∧ xs[1]? = some (.bool d0))
  res : RowIs wr w.heap.size 44 [.slice none 0 0, .int .i64 0, .int .i64 0]
  below : Below w.heap.size w wr

theorem OInv.step {w wr : World} {m k : Nat} {c0 ck : Int} {d0 dk : Bool} (h : OInv w wr m k c0 d0) (hk : k < m) (h0 : k = 0 → ck = c0 ∧ dk = d0) :
    OInv w ((wr.setCell ⟨w.heap.size + 1, k * 2, none⟩ (.int .i64 ck)).setCell ⟨w.heap.size + 1, k * 2 + 1, none⟩ (.bool dk)) m (k + 1) c0 d0 := by
  obtain ⟨xs, h1, h2, h3⟩ := h.row
  refine ⟨⟨(xs.set (k * 2) (.int .i64 ck)).set (k * 2 + 1) (.bool dk), (h1.set _ _).set _ _, by simp [h2], fun _ => ?_⟩, (h.res.setOther (by simp) _).setOther (by simp) _, (h.below.setCell (by simp) _).setCell (by simp) _⟩
  by_cases e : k = 0
  · obtain ⟨e1, e2⟩ := h0 e
    subst e
    subst e1
    subst e2
    have hl : 1 < xs.length := by omega
    constructor
    · rw [List.getElem?_set_ne (by omega), Nat.zero_mul, List.getElem?_set_self (by omega)]
    · rw [Nat.zero_mul, Nat.zero_add, List.getElem?_set_self (by simpa using hl)]
  · obtain ⟨q1, q2⟩ := h3 (by omega)
    constructor
    · rw [List.getElem?_set_ne (by omega), List.getElem?_set_ne (by omega), q1]
    · rw [List.getElem?_set_ne (by omega), List.getElem?_set_ne (by omega), q2]

theorem OInv.drew {w wr : World} {m k : Nat} {c0 : Int} {d0 : Bool} (h : OInv w wr m k c0 d0) : OInv w wr.drew m k c0 d0 := ⟨h.row, h.res, h.below.drew⟩

theorem OInv.stored {w wr : World} {m k : Nat} {c0 : Int} {d0 : Bool} (h : OInv w wr m k c0 d0) (x y z : Value) :
    (((wr.setCell ⟨w.heap.size, 0, none⟩ x).setCell ⟨w.heap.size, 1, none⟩ y).setCell ⟨w.heap.size, 2, none⟩ z).cell? ⟨w.heap.size, 0, none⟩ = some x ∧
    (((wr.setCell ⟨w.heap.size, 0, none⟩ x).setCell ⟨w.heap.size, 1, none⟩ y).setCell ⟨w.heap.size, 2, none⟩ z).cell? ⟨w.heap.size, 1, none⟩ = some y ∧
    (((wr.setCell ⟨w.heap.size, 0, none⟩ x).setCell ⟨w.heap.size, 1, none⟩ y).setCell ⟨w.heap.size, 2, none⟩ z).cell? ⟨w.heap.size, 2, none⟩ = some z := by
  have hr := ((h.res.set 0 x).set 1 y).set 2 z
  exact ⟨by rw [hr.cell]; rfl, by rw [hr.cell]; rfl, by rw [hr.cell]; rfl⟩

theorem OInv.post {w wr : World} {m : Nat} {c0 : Int} {d0 : Bool} (h : OInv w wr m m c0 d0) (off cnt : Int) (x : Value) :
    OrderPost w m c0 d0 off cnt (.returned (.agg #[.slice (some ⟨w.heap.size + 1, 0, none⟩) m m, .int .i64 off, .int .i64 cnt])) (((wr.setCell ⟨w.heap.size, 0, none⟩ x).setCell ⟨w.heap.size, 1, none⟩ (.int .i64 off)).setCell ⟨w.heap.size, 2, none⟩ (.int .i64 cnt)) := by
  obtain ⟨xs, h1, h2, h3⟩ := h.row
  have hr := ((h1.setOther (a := ⟨w.heap.size, 0, none⟩) (by simp) x).setOther (a := ⟨w.heap.size, 1, none⟩) (by simp) (.int .i64 off)).setOther (a := ⟨w.heap.size, 2, none⟩) (by simp) (.int .i64 cnt)
  refine ⟨w.heap.size + 1, rfl, hr.lt, fun q => ?_, ((h.below.setCell (Nat.le_refl _) _).setCell (Nat.le_refl _) _).setCell (Nat.le_refl _) _⟩
  obtain ⟨q1, q2⟩ := h3 q
  exact ⟨by rw [hr.cell]; exact q1, by rw [hr.cell]; exact q2⟩

set_option maxRecDepth 100000 in
set_option maxHeartbeats 1600000 in
theorem order_any (B : Nat) (ac ad : Option Addr) (lc cc ld cd m : Nat) (zs : List Int) (bs : List Bool) (off cnt : Int) (w : World)
    (hc : SliceAt B w ac (zs.map (Value.int .i64))) (hd : SliceAt B w ad (bs.map Value.bool)) (hB : B ≤ w.heap.size) (hlc : zs.length = lc) (hld : bs.length = ld) (hm : m = if ld < lc then ld else lc) (h1 : lc ≤ 1048577) (h2 : ld ≤ 1048577) :
    Calls Try.prog 23 #[.slice ac lc cc, .slice ad ld cd, .int .i64 off, .int .i64 cnt] w (OrderPost w m (zs.getD 0 0) (bs.getD 0 false) off cnt) := by
  have hml : m ≤ lc ∧ m ≤ ld := by rw [hm]; split <;> omega
  obtain ⟨xs0, hxl, hmk⟩ := make_orders m (by omega)
  have HC : Hid (∀ x, Below w.heap.size w x → SliceAt B x ac (zs.map (Value.int .i64))) := fun x hx => hc.kept (hx.mono hB)
  have HD : Hid (∀ x, Below w.heap.size w x → SliceAt B x ad (bs.map Value.bool)) := fun x hx => hd.kept (hx.mono hB)
  have HL := hide (And.intro hlc hld)
  have HX := hide hxl
  have HI0 : Hid (OInv w ((w.alloc (.cells #[.slice none 0 0, .int .i64 0, .int .i64 0] 44)).alloc (.cells xs0.toArray 95)) m 0 (zs.getD 0 0) (bs.getD 0 false)) := by
    refine ⟨⟨xs0, ?_, hxl, fun q => by omega⟩, (RowIs.made w 44 [.slice none 0 0, .int .i64 0, .int .i64 0]).alloc _, ((Below.refl _ _).alloc (Nat.le_refl _) _).alloc (by simp) _⟩
    have := RowIs.made (w.alloc (.cells #[.slice none 0 0, .int .i64 0, .int .i64 0] 44)) 95 xs0
    simpa using this
  clear hc hd hlc hld hxl
  have hm' : (ld < lc ∧ m = ld) ∨ (¬ ld < lc ∧ m = lc) := by
    by_cases hlt : ld < lc
    · rw [if_pos hlt] at hm
      exact Or.inl ⟨hlt, hm⟩
    · rw [if_neg hlt] at hm
      exact Or.inr ⟨hlt, hm⟩
  clear hm
  rcases hm' with ⟨hlt, hm⟩ | ⟨hlt, hm⟩
  all_goals
    have HMl := hide hml
    clear hml
    subst hm
    go_enter Try.func23, Try.ntmps23
    go_wp2_with fail
    clear hmk
    go_loopw [11] (fun i wr => ∃ k : Nat, k ≤ m ∧ i = .int .i64 k ∧ Hid (OInv w wr m k (zs.getD 0 0) (bs.getD 0 false))) (fun i _ => m - (intOf i).toNat)
    case atStart => exact ⟨0, Nat.zero_le _, rfl, HI0⟩
    case round =>
      obtain ⟨k, hk, rfl, HI⟩ := hrel
      clear HI0
      by_cases hkm : k < m
      · have hk1 : k < zs.length := by have := HL.out.1; have := HMl.out.1; omega
        have hk2 : k < bs.length := by have := HL.out.2; have := HMl.out.2; omega
        obtain ⟨b1, o1, e1, hb1, k1⟩ := (HC.out wr HI.out.below).cell (i := k) (by simpa using hk1)
        obtain ⟨b2, o2, e2, hb2, k2⟩ := (HD.out wr HI.out.below).cell (i := k) (by simpa using hk2)
        subst e1
        subst e2
        obtain ⟨ck, hck⟩ : ∃ x, x = zs[k] := ⟨_, rfl⟩
        obtain ⟨dk, hdk⟩ : ∃ x, x = bs[k] := ⟨_, rfl⟩
        have g1 : (zs.map (Value.int .i64)).getD k undef = .int .i64 ck := by rw [List.getD_eq_getElem?_getD, List.getElem?_map, List.getElem?_eq_getElem hk1, hck]; rfl
        have g2 : (bs.map Value.bool).getD k undef = .bool dk := by rw [List.getD_eq_getElem?_getD, List.getElem?_map, List.getElem?_eq_getElem hk2, hdk]; rfl
        rw [g1] at k1
        rw [g2] at k2
        have HI2 := hide (HI.out.step (ck := ck) (dk := dk) hkm (fun e => by subst e; rw [hck, hdk, List.getD_eq_getElem?_getD, List.getD_eq_getElem?_getD, List.getElem?_eq_getElem hk1, List.getElem?_eq_getElem hk2]; exact ⟨rfl, rfl⟩))
        have n1 : w.heap.size + 1 ≠ b1 := by omega
        have n2 : w.heap.size + 1 ≠ b2 := by omega
        obtain ⟨xs, hr, hxl, _⟩ := HI.out.row
        have q1 := hr.cellD (i := k * 2) (by omega) undef
        have q2 := hr.cellD (i := k * 2 + 1) (by omega) undef
        obtain ⟨v1, hv1⟩ : ∃ v, v = xs.getD (k * 2) undef := ⟨_, rfl⟩
        obtain ⟨v2, hv2⟩ : ∃ v, v = xs.getD (k * 2 + 1) undef := ⟨_, rfl⟩
        rw [← hv1] at q1
        rw [← hv2] at q2
        have f1 := hr.free (k * 2)
        have f2 := hr.free (k * 2 + 1)
        have hk0 : (0 : Int) ≤ (k : Int) := Int.natCast_nonneg _
        have hkm1 : (k : Int) < (m : Int) := by omega
        first | have hkc : (k : Int) < (lc : Int) := by have := HMl.out.1; omega | skip
        first | have hkd : (k : Int) < (ld : Int) := by have := HMl.out.2; omega | skip
        clear g1 g2 hck hdk hr hxl hv1 hv2 HI
        go_wp2_with fail
        go_region_held3 (fun x => x.cell? ⟨b1, o1 + k, none⟩ = some (.int .i64 ck) ∧ x.cell? ⟨b2, o2 + k, none⟩ = some (.bool dk)) (go_keep) (fail)
        go_wp2_with fail
        go_roundw
        case rel => exact ⟨k + 1, by omega, by go_num, HI2.out.drew⟩
        case measure => simp [intOf]; omega
      · have hkm' : k = m := by omega
        have r0 : wr.cell? ⟨w.heap.size, 0, none⟩ = some (.slice none 0 0) := by rw [HI.out.res.cell]; rfl
        have r1 : wr.cell? ⟨w.heap.size, 1, none⟩ = some (.int .i64 0) := by rw [HI.out.res.cell]; rfl
        have r2 : wr.cell? ⟨w.heap.size, 2, none⟩ = some (.int .i64 0) := by rw [HI.out.res.cell]; rfl
        have f0 := HI.out.res.free 0
        have f1 := HI.out.res.free 1
        have f2 := HI.out.res.free 2
        have HE : Hid (OInv w wr m m (zs.getD 0 0) (bs.getD 0 false)) := by
          have := HI.out
          rw [hkm'] at this
          exact this
        clear hkm' HI
        go_wp2_with fail
        obtain ⟨p0, p1, p2⟩ := HE.out.stored (.slice (some ⟨w.heap.size + 1, 0, none⟩) m m) (.int .i64 off) (.int .i64 cnt)
        exact bodyPost_ret (v := .agg #[.slice (some ⟨w.heap.size + 1, 0, none⟩) m m, .int .i64 off, .int .i64 cnt]) (by simp [results, Try.results23, go_sem, p0, p1, p2]) rfl (HE.out.post _ _ _)

end Go.Proofs.Qxb6001672a
