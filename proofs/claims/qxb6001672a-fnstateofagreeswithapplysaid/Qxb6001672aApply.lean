/-
  Seat b6001672a: (logicalInts).apply, over zeros, walked.
-/
import Derived.Test.Qxb6001672aStateOf
import Derived.Test.Qxb6001672aTruths
namespace Go.Proofs.Qxb6001672a
open Go.RowKit

/-- the state that AND leaves of two zeros' states -/
def stj (x y : Int) : Int := tst (jn (itruth 0 x) (itruth 0 y)) (bits .and .u8 (bits .or .u8 x y) 2 != 0)
def stjs (xs ys : List Int) : List Int := List.zipWith stj xs ys
theorem stjs_length {xs ys : List Int} {n : Nat} (h1 : xs.length = n) (h2 : ys.length = n) : (stjs xs ys).length = n := by simp [stjs, h1, h2]
theorem stjs_get {xs ys : List Int} {k : Nat} (h : k < (stjs xs ys).length) (h1 : k < xs.length) (h2 : k < ys.length) : (stjs xs ys)[k] = stj xs[k] ys[k] := by simp [stjs]

/-- a row of zeros, read at k -/
theorem SliceAt.zero {B : Nat} {w : World} {a : Option Addr} {m k : Nat} (h : SliceAt B w a ((List.replicate m 0).map (Value.int .i64))) (hk : k < m) : ∃ b off, a = some ⟨b, off, none⟩ ∧ b < B ∧ w.cell? ⟨b, off + k, none⟩ = some (.int .i64 0) := by
  obtain ⟨b, off, e, hb, hc⟩ := h.cell (i := k) (by simpa using hk)
  refine ⟨b, off, e, hb, ?_⟩
  rw [hc, getD_map_int (x := 0) (by simpa using hk) (by simp)]

/-- the out of apply: its numbers' row is some row -/
structure OutI (w : World) (B go no so m : Nat) (us : List Int) (p : Bool) : Prop where
  iv : IV w B go (.slice (some ⟨no, 0, none⟩) m m) (some ⟨so, 0, none⟩) us p
  nums : ∃ ns : List Int, RowIs w no 2 (ns.map (Value.int .i64)) ∧ ns.length = m
  ne1 : no ≠ go
  ne2 : no ≠ so
  ge : B ≤ no

theorem OutI.kept {w x : World} {B go no so m : Nat} {us : List Int} {p : Bool} (h : OutI w B go no so m us p) (h1 : x.heap[go]? = w.heap[go]?) (h2 : x.heap[so]? = w.heap[so]?) (h3 : x.heap[no]? = w.heap[no]?) : OutI x B go no so m us p := by
  obtain ⟨ns, q1, q2⟩ := h.nums
  refine ⟨h.iv.kept h1 (fun gs e _ => ?_), ⟨ns, q1.kept h3, q2⟩, h.ne1, h.ne2, h.ge⟩
  simp only [Option.some.injEq, Addr.mk.injEq, and_true] at e
  rw [← e]
  exact h2
theorem OutI.sgo {w : World} {B go no so m : Nat} {us : List Int} {p : Bool} (h : OutI w B go no so m us p) : so ≠ go ∧ B ≤ so := by
  rcases h.iv.st with ⟨q, _⟩ | ⟨gs', e, q1, q2, q⟩
  · cases q
  · simp only [Option.some.injEq, Addr.mk.injEq, and_true] at e
    subst e
    exact ⟨q1, q2⟩
theorem OutI.lts {w : World} {B go no so m : Nat} {us : List Int} {p : Bool} (h : OutI w B go no so m us p) : go < w.heap.size ∧ so < w.heap.size ∧ no < w.heap.size := by
  obtain ⟨ns, q1, _⟩ := h.nums
  exact ⟨h.iv.row.lt, h.iv.cellAt.lt, q1.lt⟩
theorem OutI.below {w x : World} {B go no so m : Nat} {us : List Int} {p : Bool} (h : OutI w B go no so m us p) (hb : Below w.heap.size w x) : OutI x B go no so m us p :=
  h.kept (hb.block _ h.lts.1) (hb.block _ h.lts.2.1) (hb.block _ h.lts.2.2)
theorem OutI.keptKB {w x : World} {B go no so m : Nat} {us : List Int} {p : Bool} {sa : Option Addr} (h : OutI w B go no so m us p) (hk : KB sa w x) (o1 : Off sa go (some ⟨so, 0, none⟩)) (o2 : Off sa no none) : OutI x B go no so m us p :=
  h.kept (hk.others _ h.lts.1 (fun y hy => (o1 y hy).1)) (hk.others _ h.lts.2.1 (fun y hy => (o1 y hy).2 _ rfl)) (hk.others _ h.lts.2.2 (fun y hy => (o2 y hy).1))
/-- a number stored -/
theorem OutI.setNum {w : World} {B go no so m : Nat} {us : List Int} {p : Bool} (h : OutI w B go no so m us p) (k : Nat) (v : Int) : OutI (w.setCell ⟨no, k, none⟩ (.int .i64 v)) B go no so m us p := by
  obtain ⟨ns, q1, q2⟩ := h.nums
  refine ⟨h.iv.kept (Below.heap_setCell _ _ _ _ (Ne.symm h.ne1)) (fun gs e _ => ?_), ⟨ns.set k v, ?_, by simpa using q2⟩, h.ne1, h.ne2, h.ge⟩
  · simp only [Option.some.injEq, Addr.mk.injEq, and_true] at e
    rw [← e]
    exact Below.heap_setCell _ _ _ _ (Ne.symm h.ne2)
  · rw [List.map_set]
    exact q1.set k _
theorem OutI.numCell {w : World} {B go no so m : Nat} {us : List Int} {p : Bool} (h : OutI w B go no so m us p) {k : Nat} (hk : k < m) : (∃ o, w.cell? ⟨no, k, none⟩ = some o) ∧ w.frozen? ⟨no, k, none⟩ = false := by
  obtain ⟨ns, q1, q2⟩ := h.nums
  exact ⟨⟨_, q1.cellD (i := k) (by rw [List.length_map, q2]; exact hk) undef⟩, q1.free k⟩
/-- a state stored -/
theorem OutI.setSt {w : World} {B go no so m : Nat} {ss : List Int} {p : Bool} {k : Nat} {x : Int} (h : OutI w B go no so m (fill (ss.take k) m 0) p) (hk : k < ss.length) (hl : ss.length = m) (hx : ss[k] = x) : OutI (w.setCell ⟨so, k, none⟩ (.int .u8 x)) B go no so m (fill (ss.take (k + 1)) m 0) p := by
  obtain ⟨ns, q1, q2⟩ := h.nums
  refine ⟨h.iv.turned (Below.heap_setCell _ _ _ _ (Ne.symm h.sgo.1)) ?_ (fillrow_step h.iv.cellAt hk hl hx), ⟨ns, q1.setOther (a := ⟨so, k, none⟩) h.ne2 _, q2⟩, h.ne1, h.ne2, h.ge⟩
  rw [fill_length (by simp; omega), fill_length (by simp; omega)]
theorem OutI.stCell {w : World} {B go no so m : Nat} {ss : List Int} {p : Bool} {k : Nat} (h : OutI w B go no so m (fill (ss.take k) m 0) p) (hk : k < m) : (∃ o, w.cell? ⟨so, k, none⟩ = some o) ∧ w.frozen? ⟨so, k, none⟩ = false :=
  ⟨fillrow_cell h.iv.cellAt hk, h.iv.cellAt.free k⟩
theorem OutI.mark {w : World} {B go no so m : Nat} {us : List Int} {p : Bool} (h : OutI w B go no so m us p) (q : Bool) : OutI (w.setCell ⟨go, 2, none⟩ (.bool q)) B go no so m us q := by
  obtain ⟨ns, q1, q2⟩ := h.nums
  exact ⟨h.iv.mark q, ⟨ns, q1.setOther (a := ⟨go, 2, none⟩) h.ne1 _, q2⟩, h.ne1, h.ne2, h.ge⟩
theorem OutI.drew {w : World} {B go no so m : Nat} {us : List Int} {p : Bool} (h : OutI w B go no so m us p) : OutI w.drew B go no so m us p := h.kept rfl rfl rfl

/-- x is w, but for blocks no and so, and for what is new -/
structure K2 (no so : Nat) (w x : World) : Prop where
  base : Below 0 w x
  others : ∀ k, k < w.heap.size → k ≠ no → k ≠ so → x.heap[k]? = w.heap[k]?
theorem K2.refl (no so : Nat) (w : World) : K2 no so w w := ⟨Below.refl _ _, fun _ _ _ _ => rfl⟩
theorem K2.setCell {no so : Nat} {w x : World} (h : K2 no so w x) {g : Nat} (hg : g = no ∨ g = so) (i : Nat) (v : Value) : K2 no so w (x.setCell ⟨g, i, none⟩ v) :=
  ⟨h.base.setCell (Nat.zero_le _) _, fun k hk h1 h2 => (Below.heap_setCell x ⟨g, i, none⟩ v k (fun e => by rcases hg with q | q; exact h1 (e.trans q); exact h2 (e.trans q))).trans (h.others k hk h1 h2)⟩
theorem K2.drew {no so : Nat} {w x : World} (h : K2 no so w x) : K2 no so w x.drew := ⟨h.base.drew, h.others⟩
theorem K2.below {no so B : Nat} {w x : World} (h : K2 no so w x) (hB : B ≤ w.heap.size) (h1 : B ≤ no) (h2 : B ≤ so) : Below B w x :=
  ⟨h.base.os, h.base.tape, h.base.output, h.base.size, fun k hk => h.others k (by omega) (by omega) (by omega)⟩
theorem K2.row {no so gs : Nat} {w x : World} {e : TypeId} {xs : List Value} (h : K2 no so w x) (hr : RowIs w gs e xs) (h1 : gs ≠ no) (h2 : gs ≠ so) : RowIs x gs e xs := hr.kept (h.others gs hr.lt h1 h2)
theorem IV.ltB {w : World} {B g : Nat} {vals : Value} {sa : Option Addr} {us : List Int} {p : Bool} (h : IV w B g vals sa us p) : ∀ x, sa = some x → x.block < w.heap.size := by
  intro x hx
  rcases h.st with ⟨e, _⟩ | ⟨gs, e, _, _, h2⟩
  · rw [e] at hx
    cases hx
  · rw [e] at hx
    cases hx
    exact h2.lt

set_option maxRecDepth 100000 in
set_option maxHeartbeats 3200000 in
theorem apply_any (B m ga gb go no so : Nat) (na nb sa sb : Option Addr) (cna cnb : Nat) (ua ub : List Int) (pa pb po : Bool) (w : World)
    (hO : OutI w B go no so m (List.replicate m 0) po) (hA : IV w B ga (.slice na m cna) sa ua pa) (hB : IV w B gb (.slice nb m cnb) sb ub pb) (hla : ua.length = m) (hlb : ub.length = m)
    (hna : SliceAt B w na ((List.replicate m 0).map (Value.int .i64))) (hnb : SliceAt B w nb ((List.replicate m 0).map (Value.int .i64))) (hca : m ≤ cna) (hcb : m ≤ cnb)
    (oao : Off sa go (some ⟨so, 0, none⟩)) (oan : Off sa no none) (oab : Off sa gb sb) (obo : Off sb go (some ⟨so, 0, none⟩)) (obn : Off sb no none) (oba : Off sb ga sa) (hm : m ≤ 1048576) (hBw : B ≤ w.heap.size) :
    Calls Try.prog 59 #[.agg #[.int .i8 0], .pointer (some ⟨ga, 0, none⟩), .pointer (some ⟨gb, 0, none⟩), .pointer (some ⟨go, 0, none⟩)] w fun e w' => e = .returned (.tuple #[]) ∧ OutI w' B go no so m (if pa && pb then List.replicate m 0 else stjs (stz pa ua) (stz pb ub)) (pa && pb) ∧ Below B w w' := by
  obtain ⟨W1, hW1⟩ : ∃ W1, W1 = w.alloc (.cells #[.int .i8 0] 109) := ⟨_, rfl⟩
  have hb1 : Below w.heap.size w W1 := by rw [hW1]; exact (Below.refl _ _).alloc (Nat.le_refl _) _
  have hr1 : RowIs W1 w.heap.size 109 [.int .i8 0] := by rw [hW1]; exact RowIs.made w 109 _
  have hA1 := hA.kept (hb1.block _ hA.row.lt) (fun _ _ hlt => hb1.block _ hlt)
  have hB1 := hB.kept (hb1.block _ hB.row.lt) (fun _ _ hlt => hb1.block _ hlt)
  have hO1 := hO.iv.kept (hb1.block _ hO.iv.row.lt) (fun _ _ hlt => hb1.block _ hlt)
  have r0 : W1.cell? ⟨w.heap.size, 0, none⟩ = some (.int .i8 0) := by rw [hr1.cell]; rfl
  have a0 : W1.cell? ⟨ga, 0, none⟩ = some (.slice na m cna) := by rw [hA1.row.cell]; rfl
  have a2 : W1.cell? ⟨ga, 2, none⟩ = some (.bool pa) := by rw [hA1.row.cell]; rfl
  have b0 : W1.cell? ⟨gb, 0, none⟩ = some (.slice nb m cnb) := by rw [hB1.row.cell]; rfl
  have b2 : W1.cell? ⟨gb, 2, none⟩ = some (.bool pb) := by rw [hB1.row.cell]; rfl
  have o0 : W1.cell? ⟨go, 0, none⟩ = some (.slice (some ⟨no, 0, none⟩) m m) := by rw [hO1.row.cell]; rfl
  have o1 : W1.cell? ⟨go, 1, none⟩ = some (.slice (some ⟨so, 0, none⟩) m m) := by rw [hO1.row.cell, List.length_replicate]; rfl
  have hca' : (m : Int) ≤ (cna : Int) := by omega
  have hcb' : (m : Int) ≤ (cnb : Int) := by omega
  rw [hW1] at r0 a0 a2 b0 b2 o0 o1
  have HW := hide hW1
  by_cases hpp : (pa && pb) = true
  · have h1 : pa = true := by cases pa <;> simp_all
    have h2 : pb = true := by cases pb <;> simp_all
    subst h1
    subst h2
    clear hA hB hA1 hB1 oao oan oab obo obn oba hpp hr1 hW1
    have HH : Hid (OutI W1 B go no so m (List.replicate m 0) po ∧ Below B w W1) := ⟨hO.below hb1, hb1.mono hBw⟩
    have HNA : Hid (∀ x, Below B w x → SliceAt B x na ((List.replicate m 0).map (Value.int .i64)) ∧ SliceAt B x nb ((List.replicate m 0).map (Value.int .i64))) := fun x hx => ⟨hna.kept hx, hnb.kept hx⟩
    have hI0 : Hid (∀ w, Calls Try.prog 68 #[.bool false] w fun e w' => e = .returned (.int .i64 0) ∧ w' = w) := fun w => intOf_any false w
    clear hO hna hnb hb1 hO1
    go_enter Try.func59, Try.ntmps59
    go_wp2_with fail
    go_quiet (fail)
    go_wp2_with fail
    go_quiet (fail)
    go_wp2_with fail
    rw [HW.out] at HH
    clear r0 a0 a2 b0 b2 o0 o1
    go_loopw [159] (fun i wr => ∃ k : Nat, k ≤ m ∧ i = .int .i64 k ∧ Hid (OutI wr B go no so m (List.replicate m 0) po) ∧ Hid (Below B w wr)) (fun i _ => m - (intOf i).toNat)
    case atStart => exact ⟨0, Nat.zero_le _, rfl, HH.out.1.kept rfl rfl rfl, below_drewN HH.out.2 _⟩
    case round =>
      obtain ⟨k, hk, rfl, HO, HB⟩ := hrel
      by_cases hlt : k < m
      · obtain ⟨b1, o1, e1, _, k1⟩ := (HNA.out wr HB.out).1.zero hlt
        obtain ⟨b2, o2, e2, _, k2⟩ := (HNA.out wr HB.out).2.zero hlt
        subst e1
        subst e2
        obtain ⟨⟨o, k3⟩, f3⟩ := HO.out.numCell hlt
        have HO2 : Hid (∀ v, OutI (wr.setCell ⟨no, k, none⟩ (.int .i64 v)) B go no so m (List.replicate m 0) po) := fun v => HO.out.setNum k v
        have HB2 : Hid (∀ v, Below B w (wr.setCell ⟨no, k, none⟩ v)) := fun v => HB.out.setCell (p := ⟨no, k, none⟩) HO.out.ge v
        have n1 : no ≠ b1 := by have := HO.out.ge; omega
        have n2 : no ≠ b2 := by have := HO.out.ge; omega
        have hk0 : (0 : Int) ≤ (k : Int) := Int.natCast_nonneg _
        have hkm : (k : Int) < (m : Int) := by omega
        clear HO HB
        go_wp2_with fail
        go_region_held3 (fun q => q.cell? ⟨b1, o1 + k, none⟩ = some (.int .i64 0) ∧ q.cell? ⟨b2, o2 + k, none⟩ = some (.int .i64 0)) (go_keep)
          (first | (go_at_call 68; refine (hI0.out _).mono ?_; rintro e w' ⟨rfl, hw⟩; subst w'))
        all_goals
          go_wp2_with fail
          go_roundw
          case rel => exact ⟨k + 1, by omega, by go_num, (HO2.out _).drew, (HB2.out _).drew⟩
          case measure => simp [intOf]; omega
      · have c2 : wr.cell? ⟨go, 2, none⟩ = some (.bool po) := by rw [HO.out.iv.row.cell]; rfl
        have f2 := HO.out.iv.row.free 2
        have HO2 := hide (HO.out.mark true)
        have HB2 := hide (HB.out.setCell (p := ⟨go, 2, none⟩) HO.out.iv.own (.bool true))
        clear HO HB
        go_wp2_with fail
        first | go_end0 | ((try simp only [Exit.inBlock, Exit.then]); refine bodyPost_ret (results_none rfl _ _ _) rfl ?_)
        exact ⟨rfl, HO2.out, HB2.out⟩
  · have hpf : (pa && pb) = false := by simpa using hpp
    rw [if_neg hpp, hpf]
    obtain ⟨xa, hxa⟩ : ∃ xa, xa = stz pa ua := ⟨_, rfl⟩
    obtain ⟨xb, hxb⟩ : ∃ xb, xb = stz pb ub := ⟨_, rfl⟩
    have HLx : Hid (xa.length = m ∧ xb.length = m) := ⟨by rw [hxa, stz_length, hla], by rw [hxb, stz_length, hlb]⟩
    have hlts := hO.lts
    have HC : Hid (∀ x, Below W1.heap.size W1 x → Calls Try.prog 50 #[.pointer (some ⟨ga, 0, none⟩)] x fun e w1 => e = .returned (.slice sa m m) ∧ Hid (Calls Try.prog 50 #[.pointer (some ⟨gb, 0, none⟩)] w1 fun e w2 => e = .returned (.slice sb m m) ∧ Hid (IV w2 B ga (.slice na m cna) sa xa pa ∧ IV w2 B gb (.slice nb m cnb) sb xb pb ∧ OutI w2 B go no so m (List.replicate m 0) po ∧ Below B w w2 ∧ RowIs w2 w.heap.size 109 [.int .i8 0]))) := by
      intro x hx
      have hA' := hA1.kept (hx.block _ hA1.row.lt) (fun _ _ hlt => hx.block _ hlt)
      have hB' := hB1.kept (hx.block _ hB1.row.lt) (fun _ _ hlt => hx.block _ hlt)
      have hO' := (hO.below hb1).below hx
      have hr' := hr1.kept (hx.block _ hr1.lt)
      refine (states_any ga B _ sa ua pa x hA').mono ?_
      rintro e w1 ⟨rfl, hi1, hk1⟩
      refine ⟨by rw [hla], ?_⟩
      refine (states_any gb B _ sb ub pb w1 (hB'.keptKB hk1 oab)).mono ?_
      rintro e w2 ⟨rfl, hi2, hk2⟩
      refine ⟨by rw [hlb], ?_⟩
      rw [hxa, hxb]
      have hx1 : B ≤ x.heap.size := Nat.le_trans hBw (Nat.le_trans hb1.size hx.size)
      refine ⟨hi1.keptKB hk2 oba, hi2, (hO'.keptKB hk1 oao oan).keptKB hk2 obo obn, ?_, ?_⟩
      · have h1 : Below B w x := (hb1.mono hBw).trans (hx.mono (Nat.le_trans hBw hb1.size))
        exact (h1.trans (hk1.below hx1 hA.ge)).trans (hk2.below (Nat.le_trans hx1 hk1.base.size) hB.ge)
      · have h1 := hr'.kept (hk1.others _ hr'.lt (fun y hy => by have := hA.ltB y hy; omega))
        exact h1.kept (hk2.others _ h1.lt (fun y hy => by have := hB.ltB y hy; omega))
    have HNA : Hid (∀ x, Below B w x → SliceAt B x na ((List.replicate m 0).map (Value.int .i64)) ∧ SliceAt B x nb ((List.replicate m 0).map (Value.int .i64))) := fun x hx => ⟨hna.kept hx, hnb.kept hx⟩
    have HOff := hide (And.intro oao (And.intro oan (And.intro obo obn)))
    have HLt := hide hlts
    rw [← hxa, ← hxb]
    obtain ⟨ss, hss⟩ : ∃ ss, ss = stjs xa xb := ⟨_, rfl⟩
    have HSl : Hid (ss.length = m) := by rw [hss]; exact stjs_length HLx.out.1 HLx.out.2
    rw [← hss]
    have HSs := hide hss
    rw [hW1] at HC
    have hpp' : pa = false ∨ (pa = true ∧ pb = false) := by cases pa <;> cases pb <;> simp_all
    clear hss hxa hxb hlts hA hB hA1 hB1 hO hO1 oao oan oab obo obn oba hpp hpf hr1 hna hnb hb1 hla hlb
    have HW1 := hide hW1
    clear hW1
    rcases hpp' with h1 | ⟨h1, h2⟩
    all_goals
      subst h1
      try subst h2
      go_enter Try.func59, Try.ntmps59
      go_wp2_with fail
      go_quiet (fail)
      go_wp2_with fail
      go_quiet (fail)
      go_wp2_with fail
      go_region_held3 (fun _ => True) (trivial) (first
        | (go_at_call 50; refine HC2.out.mono ?_; rintro e w2 ⟨rfl, HS⟩)
        | (go_at_call 50; refine (HC.out _ (below_drewN (Below.refl _ _) _).drew).mono ?_; rintro e w1 ⟨rfl, HC2⟩))
      clear HC HC2 r0 a0 a2 b0 b2 o0 o1
      go_wp2_with fail
      go_loopw [57] (fun i wr => ∃ k : Nat, k ≤ m ∧ i = .int .i64 k ∧ Hid (OutI wr B go no so m (fill (ss.take k) m 0) po) ∧ Hid (K2 no so w2 wr)) (fun i _ => m - (intOf i).toNat)
      case atStart =>
        refine ⟨0, Nat.zero_le _, rfl, ?_, K2.refl _ _ _⟩
        show OutI _ _ _ _ _ _ _ _
        rw [List.take_zero, fill_nil]
        exact HS.out.2.2.1
      case round =>
        obtain ⟨k, hk, rfl, HO, HK⟩ := hrel
        have HBr := hide (HS.out.2.2.2.1.trans (HK.out.below (B := B) (Nat.le_trans hBw HS.out.2.2.2.1.size) HO.out.ge HO.out.sgo.2))
        by_cases hlt : k < m
        · have hka : k < xa.length := by rw [HLx.out.1]; exact hlt
          have hkb : k < xb.length := by rw [HLx.out.2]; exact hlt
          have hks : k < ss.length := by rw [HSl.out]; exact hlt
          obtain ⟨gsa, ea⟩ := HS.out.1.some_of_pos (by omega)
          obtain ⟨gsb, eb⟩ := HS.out.2.1.some_of_pos (by omega)
          subst ea
          subst eb
          have n1 : no ≠ gsa := fun e => (HOff.out.2.1 _ rfl).1 e.symm
          have n2 : so ≠ gsa := fun e => (HOff.out.1 _ rfl).2 _ rfl e.symm
          have n3 : no ≠ gsb := fun e => (HOff.out.2.2.2 _ rfl).1 e.symm
          have n4 : so ≠ gsb := fun e => (HOff.out.2.2.1 _ rfl).2 _ rfl e.symm
          obtain ⟨x, hx⟩ : ∃ x, xa[k] = x := ⟨_, rfl⟩
          obtain ⟨y, hy⟩ : ∃ y, xb[k] = y := ⟨_, rfl⟩
          have k1 : wr.cell? ⟨gsa, k, none⟩ = some (.int .u8 x) := by
            rw [(HK.out.row HS.out.1.cellAt n1.symm n2.symm).cellD (i := k) (by simpa using hka) undef, getD_map_int hka hx]
          have k2 : wr.cell? ⟨gsb, k, none⟩ = some (.int .u8 y) := by
            rw [(HK.out.row HS.out.2.1.cellAt n3.symm n4.symm).cellD (i := k) (by simpa using hkb) undef, getD_map_int hkb hy]
          obtain ⟨b1, p1, e1, _, k3⟩ := (HNA.out wr HBr.out).1.zero hlt
          obtain ⟨b2, p2, e2, _, k4⟩ := (HNA.out wr HBr.out).2.zero hlt
          subst e1
          subst e2
          have k5 : wr.cell? ⟨w.heap.size, 0, none⟩ = some (.int .i8 0) := by
            rw [(HK.out.row HS.out.2.2.2.2 (by have := HLt.out; omega) (by have := HLt.out; omega)).cell]
            rfl
          have hsx : ss[k] = stj x y := by
            have e1 : ss[k]? = (stjs xa xb)[k]? := by rw [HSs.out]
            have hkr : k < (stjs xa xb).length := by rw [stjs_length HLx.out.1 HLx.out.2]; exact hlt
            rw [List.getElem?_eq_getElem hks, List.getElem?_eq_getElem hkr, stjs_get hkr hka hkb, hx, hy] at e1
            simpa using e1
          obtain ⟨⟨v1, c1⟩, f1⟩ := HO.out.numCell hlt
          obtain ⟨⟨v2, c2⟩, f2⟩ := HO.out.stCell hlt
          have hns : no ≠ so := HO.out.ne2
          have HO2 : Hid (∀ v, OutI ((wr.setCell ⟨no, k, none⟩ (.int .i64 v)).setCell ⟨so, k, none⟩ (.int .u8 (stj x y))) B go no so m (fill (ss.take (k + 1)) m 0) po) := fun v => (HO.out.setNum k v).setSt hks HSl.out hsx
          have HK2 : Hid (∀ v, K2 no so w2 ((wr.setCell ⟨no, k, none⟩ (.int .i64 v)).setCell ⟨so, k, none⟩ (.int .u8 (stj x y)))) := fun v => (HK.out.setCell (Or.inl rfl) k _).setCell (Or.inr rfl) k _
          have hk0 : (0 : Int) ≤ (k : Int) := Int.natCast_nonneg _
          have hkm : (k : Int) < (m : Int) := by omega
          clear hx hy hsx HO HK HBr
          go_wp2_with fail
          go_region_held3 (fun q => q.cell? ⟨gsa, k, none⟩ = some (.int .u8 x) ∧ q.cell? ⟨gsb, k, none⟩ = some (.int .u8 y) ∧ q.cell? ⟨b1, p1 + k, none⟩ = some (.int .i64 0) ∧ q.cell? ⟨b2, p2 + k, none⟩ = some (.int .i64 0) ∧ q.cell? ⟨w.heap.size, 0, none⟩ = some (.int .i8 0)) (first | exact ⟨k1, k2, k3, k4, k5⟩ | go_keep)
            (first | (go_at_call 51; refine (intTruth_any _ _ _).mono ?_; rintro e w' ⟨rfl, hw⟩; subst w') | (go_at_call 69; refine (join_any _ _ _).mono ?_; rintro e w' ⟨rfl, hw⟩; subst w'))
          clear k3 k4 k5
          go_wp2_with fail
          go_region_held3 (fun q => q.cell? ⟨gsa, k, none⟩ = some (.int .u8 x) ∧ q.cell? ⟨gsb, k, none⟩ = some (.int .u8 y)) (first | exact ⟨k1, k2⟩ | go_keep)
            (first | (go_at_call 70; refine (truthInt_any _ _ _).mono ?_; rintro e w' ⟨rfl, hw⟩; subst w'))
          go_wp2_with fail
          go_roundw
          case rel => exact ⟨k + 1, by omega, by go_num, (HO2.out _).drew.drew, (HK2.out _).drew.drew⟩
          case measure => simp [intOf]; omega
        · have c2 : wr.cell? ⟨go, 2, none⟩ = some (.bool po) := by rw [HO.out.iv.row.cell]; rfl
          have f2 := HO.out.iv.row.free 2
          have HO1 : Hid (OutI wr B go no so m ss po) := by
            have h1 := HO.out
            rw [show k = m by omega, List.take_of_length_le (by rw [HSl.out]; omega), fill_full HSl.out] at h1
            exact h1
          have HO2 := hide (HO1.out.mark false)
          have HB2 := hide (HBr.out.setCell (p := ⟨go, 2, none⟩) HO.out.iv.own (.bool false))
          clear HO HK HO1 HBr
          go_wp2_with fail
          first | go_end0 | ((try simp only [Exit.inBlock, Exit.then]); refine bodyPost_ret (results_none rfl _ _ _) rfl ?_)
          exact ⟨rfl, HO2.out, HB2.out⟩

end Go.Proofs.Qxb6001672a
