/-
  Seat b6000458a: edgeEnds, walked.
-/
import Derived.Test.Qxb6000458aNames
namespace Go.Proofs.Qxb6000458a
open Go.RowKit

theorem Try.info3e : (Try.prog.info? 3).map (fun i => (i.zero, i.size, i.bytes)) = some (some (.int .i64 0), 1, 8) := by kernel_rfl

/-- the places of the first k lines' members, of their roles -/
def ends1 (ns : List ByteArray) (ls : List (ByteArray × ByteArray)) (k : Nat) : List Int := (ls.take k).map fun p => Pure.idx ns p.1
def ends2 (ns : List ByteArray) (ls : List (ByteArray × ByteArray)) (k : Nat) : List Int := (ls.take k).map fun p => Pure.idx ns p.2
theorem ends1_succ (ns : List ByteArray) {ls : List (ByteArray × ByteArray)} {k : Nat} (h : k < ls.length) : ends1 ns ls (k + 1) = ends1 ns ls k ++ [Pure.idx ns (ls.getD k dfl).1] := by
  unfold ends1
  rw [List.take_succ_eq_append_getElem h, List.map_append, List.getD_eq_getElem?_getD, List.getElem?_eq_getElem h]
  rfl
theorem ends2_succ (ns : List ByteArray) {ls : List (ByteArray × ByteArray)} {k : Nat} (h : k < ls.length) : ends2 ns ls (k + 1) = ends2 ns ls k ++ [Pure.idx ns (ls.getD k dfl).2] := by
  unfold ends2
  rw [List.take_succ_eq_append_getElem h, List.map_append, List.getD_eq_getElem?_getD, List.getElem?_eq_getElem h]
  rfl
theorem ends1_len (ns : List ByteArray) {ls : List (ByteArray × ByteArray)} {k : Nat} (h : k ≤ ls.length) : (ends1 ns ls k).length = k := by simp [ends1, h]
theorem ends2_len (ns : List ByteArray) {ls : List (ByteArray × ByteArray)} {k : Nat} (h : k ≤ ls.length) : (ends2 ns ls k).length = k := by simp [ends2, h]

/-- the cells of such a row, zeros behind it -/
def intsFill (zs : List Int) (n : Nat) : List Value := (fill zs n 0).map (Value.int .i64)
theorem intsFill_set {zs : List Int} {n k : Nat} (hk : zs.length = k) (h : k < n) (x : Int) : (intsFill zs n).set k (.int .i64 x) = intsFill (zs ++ [x]) n := by
  unfold intsFill
  rw [← List.map_set, ← hk, fill_set (by omega)]
theorem intsFill_nil (n : Nat) : intsFill [] n = List.replicate n (.int .i64 0) := by simp [intsFill, fill]
theorem intsFill_len {zs : List Int} {n : Nat} (h : zs.length ≤ n) : (intsFill zs n).length = n := by simp [intsFill, fill_length h]

theorem rowAt_of {w : World} {B g n : Nat} {zs : List Int} (h : RowIs w g 3 (intsFill zs n)) (hn : zs.length = n) (hB : g < B) : RowAt B w (.slice (some ⟨g, 0, none⟩) n n) zs := by
  refine Or.inr ⟨g, n, by rw [hn], hB, fun i hi => ?_⟩
  rw [h.cell, intsFill, fill_full hn, List.getElem?_map, List.getD_eq_getElem?_getD, List.getElem?_eq_getElem hi]
  rfl

structure EInv (w wr : World) (n : Nat) (z1 z2 : List Int) : Prop where
  r1 : RowIs wr w.heap.size 3 (intsFill z1 n)
  r2 : RowIs wr (w.heap.size + 1) 3 (intsFill z2 n)
  below : Below w.heap.size w wr

theorem EInv.start (w : World) (n : Nat) : EInv w ((w.alloc (.cells (List.replicate n (.int .i64 0)).toArray 3)).alloc (.cells (List.replicate n (.int .i64 0)).toArray 3)) n [] [] := by
  refine ⟨?_, ?_, ((Below.refl _ _).alloc (Nat.le_refl _) _).alloc (by simp) _⟩
  · rw [intsFill_nil]
    exact (RowIs.made w 3 _).alloc _
  · rw [intsFill_nil]
    have := RowIs.made (w.alloc (.cells (List.replicate n (.int .i64 0)).toArray 3)) 3 (List.replicate n (.int .i64 0))
    simpa using this
theorem EInv.set1 {w wr : World} {n k : Nat} {z1 z2 : List Int} (h : EInv w wr n z1 z2) (hk : z1.length = k) (hn : k < n) (x : Int) : EInv w (wr.setCell ⟨w.heap.size, k, none⟩ (.int .i64 x)) n (z1 ++ [x]) z2 := by
  refine ⟨?_, h.r2.setOther (by simp) _, h.below.setCell (Nat.le_refl _) _⟩
  rw [← intsFill_set hk hn]
  exact h.r1.set k _
theorem EInv.set2 {w wr : World} {n k : Nat} {z1 z2 : List Int} (h : EInv w wr n z1 z2) (hk : z2.length = k) (hn : k < n) (x : Int) : EInv w (wr.setCell ⟨w.heap.size + 1, k, none⟩ (.int .i64 x)) n z1 (z2 ++ [x]) := by
  refine ⟨h.r1.setOther (by simp) _, ?_, h.below.setCell (by simp) _⟩
  rw [← intsFill_set hk hn]
  exact h.r2.set k _

/-- what edgeEnds leaves -/
def EdgePost (w : World) (ns : List ByteArray) (ls : List (ByteArray × ByteArray)) (e : Ending) (w' : World) : Prop :=
  e = .returned (.tuple #[.slice (some ⟨w.heap.size, 0, none⟩) ls.length ls.length, .slice (some ⟨w.heap.size + 1, 0, none⟩) ls.length ls.length]) ∧ EInv w w' ls.length (ends1 ns ls ls.length) (ends2 ns ls ls.length)

set_option maxRecDepth 100000 in
set_option maxHeartbeats 1600000 in
theorem edgeEnds_any (B : Nat) (vn : Value) (ns : List ByteArray) (a : Option Addr) (len cap : Nat) (ls : List (ByteArray × ByteArray)) (w : World) (hv : StrAt B w vn ns) (hB : B ≤ w.heap.size) (hnl : ns.length ≤ 9000) (hl : IsLines w a len cap ls) (h4 : len ≤ 4096) :
    Calls Try.prog 16 #[vn, .slice a len cap] w (EdgePost w ns ls) := by
  obtain ⟨h1, h2, h3, h5⟩ := hl
  unfold maxLen at h3
  have hmk := fun w => make_row (P := Try.prog) 34 3 (.int .i64 0) 8 Try.underlying34 Try.info3e rfl len (by omega) (by omega) w
  have HL := hide h1
  have HI0 := hide (EInv.start w len)
  have HX : Hid (∀ x, Below w.heap.size w x → ∀ s : ByteArray, Calls Try.prog 18 #[vn, .string s] x fun e w' => e = .returned (.int .i64 (Pure.idx ns s)) ∧ w' = x) := fun x hx s => indexOf_any B vn ns s x (hv.kept (hx.mono hB)) hnl
  clear h1 hv
  go_enter Try.func16, Try.ntmps16
  go_wp2_with fail
  clear hmk
  go_loopw [8] (fun i wr => ∃ k : Nat, k ≤ len ∧ i = .int .i64 k ∧ Hid (EInv w wr len (ends1 ns ls k) (ends2 ns ls k))) (fun i _ => len - (intOf i).toNat)
  case atStart => exact ⟨0, Nat.zero_le _, rfl, HI0⟩
  case round =>
    obtain ⟨k, hk, rfl, HI⟩ := hrel
    clear HI0
    by_cases hlt : k < len
    · rcases h5 with h6 | ⟨b, off, rfl, hc⟩
      · omega
      obtain ⟨c0, c1⟩ := hc k hlt
      have hbl : b < w.heap.size := World.block_lt_of_cell? w _ c0
      have hkl : k < ls.length := by rw [HL.out]; exact hlt
      obtain ⟨s0, hs0⟩ : ∃ s, s = (ls.getD k dfl).1 := ⟨_, rfl⟩
      obtain ⟨s1, hs1⟩ : ∃ s, s = (ls.getD k dfl).2 := ⟨_, rfl⟩
      have HC : Hid (∀ x : World, Below w.heap.size w x → x.cell? ⟨b, off + k * 2, none⟩ = some (.string s0) ∧ x.cell? ⟨b, off + k * 2 + 1, none⟩ = some (.string s1)) := by
        intro x hx
        rw [hs0, hs1]
        exact ⟨(hx.cell hbl).trans c0, (hx.cell hbl).trans c1⟩
      obtain ⟨x1, hx1⟩ : ∃ x1, x1 = Pure.idx ns s0 := ⟨_, rfl⟩
      obtain ⟨x2, hx2⟩ : ∃ x2, x2 = Pure.idx ns s1 := ⟨_, rfl⟩
      have HI1 := hide (HI.out.set1 (ends1_len ns (by omega)) hlt x1)
      have HI2 := hide (HI1.out.set2 (ends2_len ns (by omega)) hlt x2)
      have HE : Hid (ends1 ns ls k ++ [x1] = ends1 ns ls (k + 1) ∧ ends2 ns ls k ++ [x2] = ends2 ns ls (k + 1)) := by
        rw [hx1, hx2, hs0, hs1]
        exact ⟨(ends1_succ ns hkl).symm, (ends2_succ ns hkl).symm⟩
      rw [HE.out.1, HE.out.2] at HI2
      obtain ⟨g0, g1⟩ := HC.out wr HI.out.below
      have hwr := HI.out.below.size
      have q1 := HI.out.r1.cellD (i := k) (by rw [intsFill_len (by rw [ends1_len ns (by omega)]; omega)]; exact hlt) (.int .i64 0)
      obtain ⟨o1, ho1⟩ : ∃ o, o = (intsFill (ends1 ns ls k) len).getD k (.int .i64 0) := ⟨_, rfl⟩
      rw [← ho1] at q1
      have f1 := HI.out.r1.free k
      have q2 := HI1.out.r2.cellD (i := k) (by rw [intsFill_len (by rw [ends2_len ns (by omega)]; omega)]; exact hlt) (.int .i64 0)
      obtain ⟨o2, ho2⟩ : ∃ o, o = (intsFill (ends2 ns ls k) len).getD k (.int .i64 0) := ⟨_, rfl⟩
      rw [← ho2] at q2
      have f2 := HI1.out.r2.free k
      have g1' := (HC.out _ HI1.out.below).2
      have HX1 : Hid (∀ s : ByteArray, s = s0 → Calls Try.prog 18 #[vn, .string s] wr fun e w' => e = .returned (.int .i64 x1) ∧ w' = wr) := by
        rintro s rfl
        rw [hx1]
        exact HX.out wr HI.out.below s
      have HX2 : Hid (Calls Try.prog 18 #[vn, .string s1] (wr.setCell ⟨w.heap.size, k, none⟩ (.int .i64 x1)) fun e w' => e = .returned (.int .i64 x2) ∧ w' = wr.setCell ⟨w.heap.size, k, none⟩ (.int .i64 x1)) := by
        rw [hx2]
        exact HX.out _ HI1.out.below s1
      clear hc c0 c1 hs0 hs1 hx1 hx2 ho1 ho2 HE HC
      go_wp2_with fail
      refine (HX1.out _ rfl).mono ?_
      rintro e w' ⟨rfl, hw⟩
      subst w'
      go_wp2_with fail
      refine HX2.out.mono ?_
      rintro e w' ⟨rfl, hw⟩
      subst w'
      go_wp2_with fail
      go_roundw
      case rel => exact ⟨k + 1, by omega, by go_num, HI2⟩
      case measure => simp [intOf]; omega
    · have hkl : k = len := by omega
      have HE : Hid (EInv w wr ls.length (ends1 ns ls ls.length) (ends2 ns ls ls.length)) := by
        show EInv _ _ _ _ _
        rw [HL.out, ← hkl]
        rw [← hkl] at HI
        exact HI.out
      clear HI hkl
      go_wp2
      go_ret2
      exact ⟨by rw [HL.out]; rfl, HE.out⟩

end Go.Proofs.Qxb6000458a
