/-
  Seat b6001672a: (*intValues).stateOf, ZZStateOf, walked.
-/
import Derived.Test.Qxb6001672aStates
import Derived.Test.Qxb6001672aClones2
namespace Go.Proofs.Qxb6001672a
open Go.RowKit

/-- the states' block of sa is neither g nor the states' block of s -/
def Off (sa : Option Addr) (g : Nat) (s : Option Addr) : Prop := ∀ x, sa = some x → x.block ≠ g ∧ ∀ y, s = some y → x.block ≠ y.block

theorem IV.keptKB {w x : World} {B g : Nat} {vals : Value} {s sa : Option Addr} {us : List Int} {p : Bool} (h : IV w B g vals s us p) (hk : KB sa w x) (ho : Off sa g s) : IV x B g vals s us p :=
  h.kept (hk.others g h.row.lt (fun x hx => (ho x hx).1)) (fun gs e hlt => hk.others gs hlt (fun x hx => (ho x hx).2 _ e))

/-- both states together -/
def ors (xs ys : List Int) : List Int := List.zipWith (bits .or .u8) xs ys
theorem ors_length {xs ys : List Int} {n : Nat} (h1 : xs.length = n) (h2 : ys.length = n) : (ors xs ys).length = n := by simp [ors, h1, h2]
theorem ors_get {xs ys : List Int} {k : Nat} (h : k < (ors xs ys).length) (h1 : k < xs.length) (h2 : k < ys.length) : (ors xs ys)[k] = bits .or .u8 xs[k] ys[k] := by simp [ors]

theorem IV.cellAt {w : World} {B g gs : Nat} {vals : Value} {us : List Int} {p : Bool} (h : IV w B g vals (some ⟨gs, 0, none⟩) us p) : RowIs w gs 86 (us.map (Value.int .u8)) := by
  rcases h.st with ⟨q, _⟩ | ⟨gs', e, _, _, q⟩
  · cases q
  · simp only [Option.some.injEq, Addr.mk.injEq, and_true] at e
    subst e
    exact q

theorem IV.some_of_pos {w : World} {B g : Nat} {vals : Value} {sa : Option Addr} {us : List Int} {p : Bool} (h : IV w B g vals sa us p) (hp : 0 < us.length) : ∃ gs, sa = some ⟨gs, 0, none⟩ := by
  rcases h.st with ⟨_, q⟩ | ⟨gs, e, _⟩
  · rw [q] at hp
    exact absurd hp (by simp)
  · exact ⟨gs, e⟩

/-- setting the mark -/
theorem IV.mark {w : World} {B g : Nat} {vals : Value} {sa : Option Addr} {us : List Int} {p : Bool} (h : IV w B g vals sa us p) (q : Bool) : IV (w.setCell ⟨g, 2, none⟩ (.bool q)) B g vals sa us q := by
  refine ⟨h.row.set 2 (.bool q), h.own, ?_⟩
  rcases h.st with r | ⟨gs, e, q1, q2, q3⟩
  · exact Or.inl r
  · exact Or.inr ⟨gs, e, q1, q2, q3.setOther (a := ⟨g, 2, none⟩) q1 _⟩

/-- the states row of v, turned -/
theorem IV.turned {w x : World} {B g gs : Nat} {vals : Value} {us us' : List Int} {p : Bool} (h : IV w B g vals (some ⟨gs, 0, none⟩) us p) (hg : x.heap[g]? = w.heap[g]?) (hl : us'.length = us.length) (hr : RowIs x gs 86 (us'.map (Value.int .u8))) : IV x B g vals (some ⟨gs, 0, none⟩) us' p := by
  rcases h.st with ⟨q, _⟩ | ⟨gs', e, q1, q2, _⟩
  · cases q
  · simp only [Option.some.injEq, Addr.mk.injEq, and_true] at e
    subst e
    refine ⟨?_, h.own, Or.inr ⟨gs, rfl, q1, q2, hr⟩⟩
    rw [hl]
    exact h.row.kept hg

theorem KB.setCell {w x : World} {g : Nat} (h : KB (some ⟨g, 0, none⟩) w x) (i : Nat) (v : Value) : KB (some ⟨g, 0, none⟩) w (x.setCell ⟨g, i, none⟩ v) :=
  ⟨h.base.setCell (Nat.zero_le _) _, fun k hk hx => (Below.heap_setCell x ⟨g, i, none⟩ v k (fun e => hx ⟨g, 0, none⟩ rfl e.symm)).trans (h.others k hk hx)⟩
theorem KB.drew {w x : World} {sa : Option Addr} (h : KB sa w x) : KB sa w x.drew := ⟨h.base.drew, h.others⟩
theorem KB.row {w x : World} {g gs : Nat} {e : TypeId} {xs : List Value} (h : KB (some ⟨g, 0, none⟩) w x) (hr : RowIs w gs e xs) (hne : g ≠ gs) : RowIs x gs e xs :=
  hr.kept (h.others gs hr.lt (fun y hy => by cases hy; exact hne))

set_option maxRecDepth 100000 in
set_option maxHeartbeats 3200000 in
/-- v.stateOf(a, b), v's states all zero -/
theorem stateOf_any (B n gv ga gb sv : Nat) (vv va vb : Value) (sa sb : Option Addr) (ua ub : List Int) (pv pa pb : Bool) (w : World)
    (hV : IV w B gv vv (some ⟨sv, 0, none⟩) (List.replicate n 0) pv) (hA : IV w B ga va sa ua pa) (hB : IV w B gb vb sb ub pb) (hla : ua.length = n) (hlb : ub.length = n)
    (oav : Off sa gv (some ⟨sv, 0, none⟩)) (oab : Off sa gb sb) (obv : Off sb gv (some ⟨sv, 0, none⟩)) (oba : Off sb ga sa) (hn : n ≤ 1048576) (hBw : B ≤ w.heap.size) :
    Calls Try.prog 61 #[.pointer (some ⟨gv, 0, none⟩), .pointer (some ⟨ga, 0, none⟩), .pointer (some ⟨gb, 0, none⟩)] w fun e w' => e = .returned (.tuple #[]) ∧ IV w' B gv vv (some ⟨sv, 0, none⟩) (if pa && pb then List.replicate n 0 else ors (stz pa ua) (stz pb ub)) (pa && pb) ∧ Below B w w' := by
  have c1 : w.cell? ⟨ga, 2, none⟩ = some (.bool pa) := by rw [hA.row.cell]; rfl
  have c2 : w.cell? ⟨gb, 2, none⟩ = some (.bool pb) := by rw [hB.row.cell]; rfl
  have c3 : w.cell? ⟨gv, 2, none⟩ = some (.bool pv) := by rw [hV.row.cell]; rfl
  have c4 : w.cell? ⟨gv, 1, none⟩ = some (.slice (some ⟨sv, 0, none⟩) n n) := by rw [hV.row.cell, List.length_replicate]; rfl
  have f3 := hV.row.free 2
  by_cases hpp : (pa && pb) = true
  · have h1 : pa = true := by cases pa <;> simp_all
    have h2 : pb = true := by cases pb <;> simp_all
    subst h1
    subst h2
    have HE : Hid (IV (w.setCell ⟨gv, 2, none⟩ (.bool true)) B gv vv (some ⟨sv, 0, none⟩) (List.replicate n 0) true) := hV.mark true
    have HBe : Hid (Below B w (w.setCell ⟨gv, 2, none⟩ (.bool true))) := (Below.refl _ _).setCell hV.own _
    clear hV hA hB oav oab obv oba hpp
    go_enter Try.func61, Try.ntmps61
    go_wp2_with fail
    (try simp only [Exit.inBlock, Exit.then])
    refine bodyPost_ret (results_none rfl _ _ _) rfl ?_
    exact ⟨rfl, HE.out, HBe.out⟩
  · have hpf : (pa && pb) = false := by simpa using hpp
    rw [if_neg hpp, hpf]
    obtain ⟨xa, hxa⟩ : ∃ xa, xa = stz pa ua := ⟨_, rfl⟩
    obtain ⟨xb, hxb⟩ : ∃ xb, xb = stz pb ub := ⟨_, rfl⟩
    have HLx : Hid (xa.length = n ∧ xb.length = n) := ⟨by rw [hxa, stz_length, hla], by rw [hxb, stz_length, hlb]⟩
    have HC : Hid (Calls Try.prog 50 #[.pointer (some ⟨ga, 0, none⟩)] w.drew fun e w1 => e = .returned (.slice sa n n) ∧ Hid (Calls Try.prog 50 #[.pointer (some ⟨gb, 0, none⟩)] w1 fun e w2 => e = .returned (.slice sb n n) ∧ Hid (IV w2 B ga va sa xa pa ∧ IV w2 B gb vb sb xb pb ∧ IV w2 B gv vv (some ⟨sv, 0, none⟩) (List.replicate n 0) pv ∧ Below B w w2))) := by
      have hA' : IV w.drew B ga va sa ua pa := hA.kept rfl (fun _ _ _ => rfl)
      have hB' : IV w.drew B gb vb sb ub pb := hB.kept rfl (fun _ _ _ => rfl)
      have hV' : IV w.drew B gv vv (some ⟨sv, 0, none⟩) (List.replicate n 0) pv := hV.kept rfl (fun _ _ _ => rfl)
      refine (states_any ga B va sa ua pa w.drew hA').mono ?_
      rintro e w1 ⟨rfl, hi1, hk1⟩
      refine ⟨by rw [hla], ?_⟩
      refine (states_any gb B vb sb ub pb w1 (hB'.keptKB hk1 oab)).mono ?_
      rintro e w2 ⟨rfl, hi2, hk2⟩
      refine ⟨by rw [hlb], ?_⟩
      rw [hxa, hxb]
      refine ⟨hi1.keptKB hk2 oba, hi2, (hV'.keptKB hk1 oav).keptKB hk2 obv, ?_⟩
      have h1 : Below B w w.drew := (Below.refl _ _).drew
      exact (h1.trans (hk1.below hBw hA.ge)).trans (hk2.below (Nat.le_trans hBw hk1.base.size) hB.ge)
    have HVf := hide oav
    have HVg := hide obv
    rw [← hxa, ← hxb]
    clear hxa hxb
    obtain ⟨os, hos⟩ : ∃ os, os = ors xa xb := ⟨_, rfl⟩
    have HOl : Hid (os.length = n) := by rw [hos]; exact ors_length HLx.out.1 HLx.out.2
    rw [← hos]
    have HOs := hide hos
    clear hos
    have hpp' : pa = false ∨ (pa = true ∧ pb = false) := by cases pa <;> cases pb <;> simp_all
    clear hV hA hB oav oab obv oba hla hlb hpp hpf
    rcases hpp' with h1 | ⟨h1, h2⟩
    all_goals
      subst h1
      try subst h2
      go_enter Try.func61, Try.ntmps61
      go_wp2_with fail
      go_region_held3 (fun _ => True) (trivial) (first
        | (go_at_call 50; refine HC2.out.mono ?_; rintro e w2 ⟨rfl, HS⟩)
        | (go_at_call 50; refine HC.out.mono ?_; rintro e w1 ⟨rfl, HC2⟩))
      go_wp2_with fail
      clear c1 c2 c3 c4 f3 HC HC2
      go_loopw [39] (fun i wr => ∃ k : Nat, k ≤ n ∧ i = .int .i64 k ∧ Hid (RowIs wr sv 86 ((fill (os.take k) n 0).map (Value.int .u8))) ∧ Hid (KB (some ⟨sv, 0, none⟩) w2 wr)) (fun i _ => n - (intOf i).toNat)
      case atStart =>
        refine ⟨0, Nat.zero_le _, rfl, ?_, KB.refl _ _⟩
        show RowIs _ _ _ _
        rw [List.take_zero, fill_nil]
        exact HS.out.2.2.1.cellAt
      case round =>
        obtain ⟨k, hk, rfl, HR, HK⟩ := hrel
        by_cases hlt : k < n
        · have hka : k < xa.length := by rw [HLx.out.1]; exact hlt
          have hkb : k < xb.length := by rw [HLx.out.2]; exact hlt
          have hko : k < os.length := by rw [HOl.out]; exact hlt
          obtain ⟨gsa, ea⟩ := HS.out.1.some_of_pos (by omega)
          obtain ⟨gsb, eb⟩ := HS.out.2.1.some_of_pos (by omega)
          subst ea
          subst eb
          have na : sv ≠ gsa := fun e => (HVf.out _ rfl).2 _ rfl e.symm
          have nb : sv ≠ gsb := fun e => (HVg.out _ rfl).2 _ rfl e.symm
          obtain ⟨x, hx⟩ : ∃ x, xa[k] = x := ⟨_, rfl⟩
          obtain ⟨y, hy⟩ : ∃ y, xb[k] = y := ⟨_, rfl⟩
          have k1 : wr.cell? ⟨gsa, k, none⟩ = some (.int .u8 x) := by
            rw [(HK.out.row HS.out.1.cellAt na).cellD (i := k) (by simpa using hka) undef, getD_map_int hka hx]
          have k2 : wr.cell? ⟨gsb, k, none⟩ = some (.int .u8 y) := by
            rw [(HK.out.row HS.out.2.1.cellAt nb).cellD (i := k) (by simpa using hkb) undef, getD_map_int hkb hy]
          have hox : os[k] = bits .or .u8 x y := by
            have e1 : os[k]? = (ors xa xb)[k]? := by rw [HOs.out]
            have hkr : k < (ors xa xb).length := by rw [ors_length HLx.out.1 HLx.out.2]; exact hlt
            rw [List.getElem?_eq_getElem hko, List.getElem?_eq_getElem hkr, ors_get hkr hka hkb, hx, hy] at e1
            simpa using e1
          obtain ⟨z, hz⟩ : ∃ z, z = bits .or .u8 x y := ⟨_, rfl⟩
          rw [← hz] at hox
          obtain ⟨o, k3⟩ := fillrow_cell HR.out hlt
          have f3 := HR.out.free k
          have HR2 := hide (fillrow_step HR.out hko HOl.out hox)
          have HK2 := hide (HK.out.setCell k (.int .u8 z))
          have hk0 : (0 : Int) ≤ (k : Int) := Int.natCast_nonneg _
          have hkn : (k : Int) < (n : Int) := by omega
          rw [hz] at HR2 HK2
          clear hx hy hox HR HK hz
          go_wp2_with fail
          go_region_held3 (fun q => q.cell? ⟨gsa, k, none⟩ = some (.int .u8 x) ∧ q.cell? ⟨gsb, k, none⟩ = some (.int .u8 y)) (go_keep) (fail)
          go_wp2_with fail
          go_roundw
          case rel => exact ⟨k + 1, by omega, by go_num, HR2.out, HK2.out.drew⟩
          case measure => simp [intOf]; omega
        · have HR2 := hide (fillrow_full HR.out HOl.out (by omega))
          have hgv : wr.heap[gv]? = w2.heap[gv]? := HK.out.others gv HS.out.2.2.1.row.lt (fun y hy => by
            cases hy
            rcases HS.out.2.2.1.st with ⟨q, _⟩ | ⟨g', e, q, _⟩
            · cases q
            · simp only [Option.some.injEq, Addr.mk.injEq, and_true] at e
              subst e
              exact q)
          have HI := hide (HS.out.2.2.1.turned (us' := os) hgv (by rw [HOl.out, List.length_replicate]) HR2.out)
          have c3 : wr.cell? ⟨gv, 2, none⟩ = some (.bool pv) := by rw [HI.out.row.cell]; rfl
          have f3 := HI.out.row.free 2
          have HI2 := hide (HI.out.mark false)
          have HB2 := hide ((HS.out.2.2.2.trans (HK.out.below (B := B) (Nat.le_trans hBw HS.out.2.2.2.size) HI.out.ge)).setCell (p := ⟨gv, 2, none⟩) HI.out.own (.bool false))
          clear HR HR2 HI HK hgv
          go_wp2_with fail
          go_end0
          exact ⟨rfl, HI2.out, HB2.out⟩

end Go.Proofs.Qxb6001672a
