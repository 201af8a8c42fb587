/-
  Seat b6000458a: the policy file, made and filled.
-/
import Derived.Test.Qxb6000458aBytes
import Derived.Test.Qxb6000458aMaps
import Derived.Maps.GroupsBeside
import Derived.Deep.AppendLies
import Derived.Deep.RegionHeld3
namespace Go.Proofs.Qxb6000458a
open Go.RowKit Go.WideMaps Go.Maps

theorem Try.info3 : (Try.prog.info? 3).map (fun i => (i.zero, i.size, i.bytes)) = some (some (.int .i64 0), 1, 8) := by kernel_rfl
theorem Try.info77 : (Try.prog.info? 77).map (fun i => (i.zero, i.size, i.bytes)) = some (some (.agg #[.string ByteArray.empty, .string ByteArray.empty]), 2, 32) := by kernel_rfl
theorem zero34 (w : World) : (zeroValue 34).run Try.prog w = .ok (.slice none 0 0) w := by kernel_rfl
theorem law9 : Keyed Try.prog 9 := string_keyed Try.underlying9

/-- the file's block -/
def fileObj (N : Nat) (v : Value) : Obj := .cells #[.slice none 0 0, v, .map (some N), .map (some (N + 1)), .map (some (N + 2)), .pointer none] 72 (0, 0)

set_option maxHeartbeats 400000 in
theorem newFile_any (w : World) : Calls Try.prog 29 #[] w fun e w' => e = .returned (.pointer (some ⟨w.heap.size + 3, 0, none⟩)) ∧
    w' = (((w.alloc (.map #[] 0)).alloc (.map #[] 0)).alloc (.map #[] 0)).alloc (fileObj w.heap.size (.slice none 0 0)) := by
  have hmm := @run_makeMap Try.prog
  go_enter Try.func29, Try.ntmps29
  go_wp2
  go_ret
  exact ⟨rfl, rfl⟩

theorem fileObj_cell {w : World} {N : Nat} {v : Value} (h : w.heap[N + 3]? = some (fileObj N v)) : w.cell? ⟨N + 3, 1, none⟩ = some v := by
  rw [cell_of_row w (N + 3) 1 _ _ _ h]
  rfl
theorem fileObj_free {w : World} {N : Nat} {v : Value} (h : w.heap[N + 3]? = some (fileObj N v)) : w.frozen? ⟨N + 3, 1, none⟩ = false := by
  simp [World.frozen?, h, fileObj]
theorem fileObj_set {w : World} {N : Nat} {v : Value} (h : w.heap[N + 3]? = some (fileObj N v)) (u : Value) : (w.setCell ⟨N + 3, 1, none⟩ u).heap[N + 3]? = some (fileObj N u) := by
  simp only [World.setCell, Array.getElem?_modify, h]
  simp [fileObj]

set_option maxRecDepth 100000 in
set_option maxHeartbeats 400000 in
theorem appendMembership_any (N : Nat) (m r : ByteArray) (v : Value) (n : Nat) (xs : List Value) (w : World) (hf : w.heap[N + 3]? = some (fileObj N v)) (hown : w.ownsRow (N + 5) 77 2 v n xs) (hn : n ≤ 4096) (hsz : N + 5 ≤ w.heap.size) :
    Calls Try.prog 34 #[.pointer (some ⟨N + 3, 0, none⟩), .string m, .string r] w fun e w' => e = .returned (.tuple #[]) ∧
      ∃ v' w1, w' = w1.setCell ⟨N + 3, 1, none⟩ v' ∧ w1.heap[N + 3]? = some (fileObj N v) ∧ w.grownBy w1 v.ownBlock ∧ w1.ownsRow (N + 5) 77 2 v' (n + 1) (xs ++ [.string m, .string r]) ∧ (v'.ownBlock = v.ownBlock ∨ v'.ownBlock = some (w.heap.size + 1)) := by
  obtain ⟨i0, hi, hz0, hz1, hz2⟩ := info_parts Try.info77
  have hcell := fileObj_cell hf
  have HF : Hid (w.heap[N + 3]? = some (fileObj N v)) := hf
  have hrow : Hid (some (N + 3) ≠ v.ownBlock) := fun e => by have := (hown.lt _ e.symm).1; omega
  have hN : N + 3 < w.heap.size := by omega
  have hnn : N + 3 ≠ w.heap.size := by omega
  clear hf
  go_enter Try.func34, Try.ntmps34
  go_wp2_with (at_builtin; refine wpList_append_lies _ rfl _ _ 69 rfl (N + 5) 77 i0 _ 2 32 Try.underlying69 hi hz0 hz1 hz2 rfl (by decide) v n xs rfl (hown.alloc _) ⟨w.heap.size, 0, none⟩ 1 1 [.string m, .string r] rfl rfl (World.news_of_block (cs := #[.string m, .string r]) (t := 77) (fr := (0, 0)) (heap_alloc_new w _)) (by simp [Value.oneCell']) (by decide) (by unfold maxLen; omega) (by omega) (by simp; omega) (w.heap.size + 1) (by simp) ?_; intro g cap w1 hown1 hgrow hat hlt; have hall : w.grownBy w1 v.ownBlock := (World.grownBy_alloc w _ _).trans hgrow; have HF1 : Hid (w1.heap[N + 3]? = some (fileObj N v)) := (hall.block (N + 3) hN hrow.out).trans HF.out; have hc1 := fileObj_cell HF1.out; have hz1 := fileObj_free HF1.out; clear hgrow)
  go_end0
  exact ⟨rfl, _, w1, rfl, HF1.out, hall, hown1, hat.elim (fun h => Or.inl h.symm) (fun h => Or.inr (by rw [h]; rfl))⟩

/-! ### the lines' places, member by member -/
def dfl : ByteArray × ByteArray := (ByteArray.empty, ByteArray.empty)
/-- the places of a member's lines among the first k -/
def idxsTo (ls : List (ByteArray × ByteArray)) (k : Nat) (s : ByteArray) : List Int := ((List.range k).filter (fun i => decide ((ls.getD i dfl).1 = s))).map (fun i : Nat => (i : Int))
/-- what they read as in the map -/
def dat (zs : List Int) : DataW Unit := if zs = [] then .nil else .slice (Go.ChangeShapes.lits .i64 zs) []
/-- a string as a key -/
def keyL (s : ByteArray) : Lit := .string s.data.toList
/-- the cells of the first k memberships -/
def flat (ls : List (ByteArray × ByteArray)) (k : Nat) : List Value := (ls.take k).flatMap fun p => [.string p.1, .string p.2]

theorem idxsTo_hit (ls : List (ByteArray × ByteArray)) (k : Nat) : idxsTo ls (k + 1) (ls.getD k dfl).1 = idxsTo ls k (ls.getD k dfl).1 ++ [(k : Int)] := by
  simp [idxsTo, List.range_succ, List.filter_append]
theorem idxsTo_miss (ls : List (ByteArray × ByteArray)) (k : Nat) {s : ByteArray} (h : (ls.getD k dfl).1 ≠ s) : idxsTo ls (k + 1) s = idxsTo ls k s := by
  have h' : decide ((ls.getD k dfl).1 = s) = false := by simpa using h
  unfold idxsTo
  rw [List.range_succ, List.filter_append, List.filter_cons, h']
  simp
theorem flat_succ (ls : List (ByteArray × ByteArray)) (k : Nat) (h : k < ls.length) : flat ls (k + 1) = flat ls k ++ [.string (ls.getD k dfl).1, .string (ls.getD k dfl).2] := by
  unfold flat
  rw [List.take_succ_eq_append_getElem h, List.flatMap_append]
  simp [List.getD_eq_getElem?_getD, List.getElem?_eq_getElem h]

/-- WHAT HOLDS BETWEEN TWO OPERATIONS OF buildFile's LOOP: j memberships are in the file, k in the map. -/
structure BInv (w wr : World) (N : Nat) (v : Value) (j k : Nat) (ls : List (ByteArray × ByteArray)) (D : DataW Unit) : Prop where
  file : wr.heap[N + 3]? = some (fileObj N v)
  mem : wr.ownsRow (N + 5) 77 2 v j (flat ls j)
  grp : wr.ownsGroups Try.prog 9 (N + 5) 3 .i64 (N + 4) k D
  shun : wr.Shuns (N + 4) (fun g => v.ownBlock = some g)
  datum : ∀ s, D.atKey (keyL s) .nil = dat (idxsTo ls k s)
  below : Below N w wr
  size : N + 5 ≤ wr.heap.size

theorem BInv.drew {w wr : World} {N : Nat} {v : Value} {j k : Nat} {ls : List (ByteArray × ByteArray)} {D : DataW Unit} (h : BInv w wr N v j k ls D) : BInv w wr.drew N v j k ls D :=
  ⟨h.file, h.mem, h.grp, h.shun, h.datum, h.below.drew, h.size⟩

theorem BInv.start (w : World) (ls : List (ByteArray × ByteArray)) :
    BInv w (((((w.alloc (.map #[] 0)).alloc (.map #[] 0)).alloc (.map #[] 0)).alloc (fileObj w.heap.size (.slice none 0 0))).alloc (.map #[] 0)) w.heap.size (.slice none 0 0) 0 0 ls (.map []) := by
  have e3 : (((w.alloc (.map #[] 0)).alloc (.map #[] 0)).alloc (.map #[] 0)).heap.size = w.heap.size + 3 := by simp
  have e4 : ((((w.alloc (.map #[] 0)).alloc (.map #[] 0)).alloc (.map #[] 0)).alloc (fileObj w.heap.size (.slice none 0 0))).heap.size = w.heap.size + 4 := by simp
  refine ⟨?_, ?_, ?_, ?_, ?_, ?_, ?_⟩
  · rw [Below.heap_alloc _ _ _ (by rw [e4]; omega), ← e3]
    exact heap_alloc_new _ _
  · exact World.ownsRow_nil _ _ _ _
  · have := World.ownsGroups_made (H := Unit) ((((w.alloc (.map #[] 0)).alloc (.map #[] 0)).alloc (.map #[] 0)).alloc (fileObj w.heap.size (.slice none 0 0))) Try.prog 9 3 .i64
    rw [e4] at this
    exact this
  · have := World.Shuns_made ((((w.alloc (.map #[] 0)).alloc (.map #[] 0)).alloc (.map #[] 0)).alloc (fileObj w.heap.size (.slice none 0 0))) (fun g => (Value.slice none 0 0).ownBlock = some g)
    rw [e4] at this
    exact this
  · intro s
    rfl
  · exact (((((Below.refl _ _).alloc (Nat.le_refl _) _).alloc (by simp) _).alloc (by simp; omega) _).alloc (by simp; omega) _).alloc (by simp; omega) _
  · simp

/-- behind ZZAppendMembership -/
theorem BInv.appended {w wr w1 : World} {N : Nat} {v v' : Value} {k : Nat} {ls : List (ByteArray × ByteArray)} {D : DataW Unit} (h : BInv w wr N v k k ls D) (hk : k < ls.length)
    (hf : w1.heap[N + 3]? = some (fileObj N v)) (hg : wr.grownBy w1 v.ownBlock) (hown : w1.ownsRow (N + 5) 77 2 v' (k + 1) (flat ls k ++ [.string (ls.getD k dfl).1, .string (ls.getD k dfl).2]))
    (hloc : v'.ownBlock = v.ownBlock ∨ v'.ownBlock = some (wr.heap.size + 1)) : BInv w (w1.setCell ⟨N + 3, 1, none⟩ v') N v' (k + 1) k ls D := by
  have hs := h.size
  have hsz := hg.size
  have hvb : ∀ g, v.ownBlock = some g → N + 5 ≤ g := fun g e => (h.mem.lt g e).1
  have hne4 : some (N + 4) ≠ v.ownBlock := fun e => by have := hvb _ e.symm; omega
  have g1 : w1.ownsGroups Try.prog 9 (N + 5) 3 .i64 (N + 4) k D := h.grp.kept hg hne4 (h.shun.rowsOff (fun j e => e))
  have s1 : w1.Shuns (N + 4) (fun g => v.ownBlock = some g) := h.shun.kept hg (by omega) hne4
  have hgs : w1.grownBy (w1.setCell ⟨N + 3, 1, none⟩ v') (some (N + 3)) := ⟨rfl, rfl, rfl, by simp [World.setCell], fun i _ hi => Below.heap_setCell _ _ _ _ (fun e => hi (by rw [e]))⟩
  refine ⟨fileObj_set hf _, ?_, ?_, ?_, h.datum, ?_, ?_⟩
  · rw [flat_succ ls k hk]
    exact ownsRow_setCell_below hown (by show N + 3 < N + 5; omega) _
  · exact g1.kept hgs (by simp) (g1.rowsAbove (fun j e => by cases e; omega))
  · have s2 : w1.Shuns (N + 4) (fun g => v'.ownBlock = some g) := by
      intro es clock hb x hx g hxg hN
      have hb' : wr.heap[N + 4]? = some (.map es clock) := (hg.block (N + 4) (by omega) hne4).symm.trans hb
      rcases hloc with e | e
      · exact h.shun es clock hb' x hx g hxg (e ▸ hN)
      · obtain ⟨es', clock', hb2, F, _⟩ := h.grp
        obtain ⟨rfl, rfl⟩ : es' = es ∧ clock' = clock := by rw [hb'] at hb2; simpa using hb2.symm
        obtain ⟨y, hy⟩ := F.reads x hx
        obtain ⟨z, hz, _⟩ := WideElems.rd_val hy
        obtain ⟨zs, hoi, _⟩ := rowElem_inv hz
        have hlt := (hoi.1.lt g hxg).2
        rw [e] at hN
        cases hN
        omega
    exact s2.kept hgs (by omega) (by simp)
  · exact (h.below.grown hg (by omega) (fun j e => by have := hvb j e; omega)).setCell (by show N ≤ N + 3; omega) _
  · simp [World.setCell]
    omega

theorem keyL_inj {s t : ByteArray} (h : keyL s = keyL t) : s = t := by
  simp only [keyL, Lit.string.injEq] at h
  cases s; cases t
  simp at h
  simp [h]

/-- the look-up of a group: it hangs on the map's block alone -/
theorem look_same {w x : World} {b n : Nat} {base : Nat} {D : DataW Unit} {s : ByteArray} {u : Value} (h : w.ownsGroups Try.prog 9 base 3 .i64 b n D) (hs : s.size ≤ maxLen)
    (hrun : (Instr.lookup 26 (.map (some b)) (.string s) false).run Try.prog w = .ok u w) (hx : x.heap[b]? = w.heap[b]?) : (Instr.lookup 26 (.map (some b)) (.string s) false).run Try.prog x = .ok u x := by
  have hkey : keyOf Try.prog 9 (.string s) = some (keyL s) := keyOf_string_mk Try.underlying9 hs
  obtain ⟨es, clock, hb, F, _⟩ := h
  obtain ⟨f, hf⟩ := MapIs.of_fit hb F
  have h1 := hf.look law9 Try.underlying26 (zero34 w) hkey
  have h2 := (hf.kept hx).look law9 Try.underlying26 (zero34 x) hkey
  rw [hrun] at h1
  have e : u = (f (keyL s)).getD (.slice none 0 0) := by simpa using h1
  rw [h2, e]

theorem dat_snoc (zs : List Int) (x : Int) : dat (zs ++ [x]) = .slice (Go.ChangeShapes.lits .i64 (zs ++ [x])) [] := by
  unfold dat
  rw [if_neg (by simp)]

theorem lits_inj : ∀ {a b : List Int}, Go.ChangeShapes.lits (H := Unit) .i64 a = Go.ChangeShapes.lits .i64 b → a = b
  | [], [], _ => rfl
  | [], _ :: _, h => by simp [Go.ChangeShapes.lits] at h
  | _ :: _, [], h => by simp [Go.ChangeShapes.lits] at h
  | x :: a, y :: b, h => by
    simp only [Go.ChangeShapes.lits, List.map_cons, List.cons.injEq, DataW.lit.injEq, Lit.int.injEq, true_and] at h
    rw [h.1, lits_inj (a := a) (b := b) h.2]

/-- the slice at a key owns just the places -/
theorem rows_are {w : World} {base : Nat} {u : Value} {zs zs' : List Int} (hoi : w.ownsInts base 3 .i64 u zs) (h : rowDatum (H := Unit) .i64 u zs = dat zs') : zs = zs' := by
  rcases hoi.datum (H := Unit) with ⟨e, rfl⟩ | e
  · rw [e] at h
    unfold dat at h
    split at h
    · rename_i h0
      exact h0.symm
    · cases h
  · rw [e] at h
    unfold dat at h
    split at h
    · cases h
    · simp only [DataW.slice.injEq, and_true] at h
      exact lits_inj h

/-- 'by[m] = append(by[m], i)': what the look-up gives, and the way back -/
theorem BInv.group {w wr : World} {N : Nat} {v : Value} {k : Nat} {ls : List (ByteArray × ByteArray)} {D : DataW Unit} (h : BInv w wr N v (k + 1) k ls D) (hk4 : k ≤ 4096) {s : ByteArray} (hsk : s = (ls.getD k dfl).1) (hs : s.size ≤ maxLen) :
    ∃ (u : Value) (zs : List Int), (∀ x : World, x.heap[N + 4]? = wr.heap[N + 4]? → (Instr.lookup 26 (.map (some (N + 4))) (.string s) false).run Try.prog x = .ok u x) ∧ wr.ownsRow (N + 5) 3 1 u zs.length (zs.map (Value.int .i64)) ∧ zs.length ≤ k ∧
      ∀ (w1 : World) (u' : Value), wr.grownBy w1 u.ownBlock → w1.ownsRow (N + 5) 3 1 u' (zs.length + 1) (zs.map (Value.int .i64) ++ [.int .i64 k]) → (u'.ownBlock = u.ownBlock ∨ u'.ownBlock = some (wr.heap.size + 1)) →
        ∃ w2 D', (Instr.mapUpdate 26 (.map (some (N + 4))) (.string s) u').run Try.prog w1 = .ok () w2 ∧ BInv w w2 N v (k + 1) (k + 1) ls D' := by
  have hkey : keyOf Try.prog 9 (.string s) = some (keyL s) := keyOf_string_mk Try.underlying9 hs
  have hkm : k < maxLen := by unfold maxLen; omega
  have hsz := h.size
  obtain ⟨u, zs, hrun, hat, hoi, hzl, hback⟩ := h.grp.at law9 Try.underlying26 (zero34 wr) hkm hkey
  have hzs : zs = idxsTo ls k s := rows_are hoi (by rw [← hat]; exact h.datum s)
  -- the slice at the key is none of the memberships' row
  have hsu : ∀ g, u.ownBlock = some g → ¬ v.ownBlock = some g := by
    obtain ⟨es, clock, hb, F, _⟩ := h.grp
    rcases Maps.fit_look false law9 Try.underlying26 (zero34 wr) hb F hkey with ⟨hrun', _, _⟩ | ⟨e0, y, hm0, _, hrun', _, _, _⟩
    · rw [hrun] at hrun'
      obtain rfl : u = .slice none 0 0 := by simpa using hrun'
      intro g hg
      cases hg
    · rw [hrun] at hrun'
      obtain rfl : u = e0.val := by simpa using hrun'
      exact fun g hg => h.shun es clock hb e0 hm0 g hg
  refine ⟨u, zs, fun x hx => look_same h.grp hs hrun hx, hoi.1, hzl, ?_⟩
  intro w1 u' hg hown hloc
  have hub : ∀ g, u.ownBlock = some g → N + 5 ≤ g := fun g e => (hoi.1.lt g e).1
  have hvb : ∀ g, v.ownBlock = some g → N + 5 ≤ g ∧ g < wr.heap.size := fun g e => h.mem.lt g e
  have hoi' : w1.ownsInts (N + 5) 3 .i64 u' (zs ++ [(k : Int)]) := hoi.appended hown (WalkArith.wf_i64 (by omega))
  have hloc' : u'.ownBlock = u.ownBlock ∨ ∃ g, u'.ownBlock = some g ∧ wr.heap.size ≤ g := hloc.elim Or.inl (fun e => Or.inr ⟨_, e, by omega⟩)
  obtain ⟨w2, hrun2, hown2, hg2⟩ := hback w1 u' _ hg hoi' (by simp; omega) hloc'
  have hs1 := hg.size
  refine ⟨w2, D.put (keyL s) (rowDatum .i64 u' (zs ++ [(k : Int)])), hrun2, ?_⟩
  refine ⟨?_, ?_, hown2, ?_, ?_, ?_, ?_⟩
  · rw [hg2.block (N + 3) (by omega) (by simp), hg.block (N + 3) (by omega) (fun e => by have := hub _ e.symm; omega)]
    exact h.file
  · have m1 := h.mem.kept hg (by
      cases hv : v.ownBlock with
      | none => exact Or.inl rfl
      | some g => exact Or.inr (fun e => hsu g e.symm hv))
    exact m1.kept hg2 (by
      cases hv : v.ownBlock with
      | none => exact Or.inl rfl
      | some g => exact Or.inr (fun e => by have := (hvb g hv).1; cases e; omega))
  · obtain ⟨es, clock, hb, F, hes, _, hbb, _⟩ := h.grp
    have hb1 : w1.heap[N + 4]? = some (.map es clock) := (hg.block (N + 4) (by omega) (fun e => by have := hub _ e.symm; omega)).trans hb
    obtain ⟨es', clock', hb2, hwho⟩ := stored_who law9 Try.underlying26 hb1 F (Nat.lt_of_le_of_lt hes hkm) hkey hrun2
    intro es2 clock2 hb2' y hy g hyg
    obtain ⟨rfl, rfl⟩ : es' = es2 ∧ clock' = clock2 := by rw [hb2] at hb2'; simpa using hb2'
    rcases hwho y hy with ⟨hy0, _⟩ | ⟨_, hval⟩
    · exact h.shun es clock hb y hy0 g hyg
    · rw [hval] at hyg
      rcases hloc with e | e
      · exact hsu g (e ▸ hyg)
      · intro hv
        have := (hvb g hv).2
        rw [e] at hyg
        cases hyg
        omega
  · intro s'
    have hD : IsMap D := by
      obtain ⟨es, clock, _, _, _, e, _⟩ := h.grp
      exact ⟨_, e⟩
    by_cases e : s' = s
    · subst e
      rw [atKey_put_same hD (law9.key hkey), hoi'.datum_pos (by simp), hzs, hsk, idxsTo_hit, dat_snoc]
    · rw [atKey_put_other (fun q => e (keyL_inj q)), h.datum, idxsTo_miss ls k (fun q => e (by rw [hsk, q]))]
  · exact (h.below.grown hg (by omega) (fun j e => by have := hub j e; omega)).grown hg2 (by have := h.below.size; omega) (fun j e => by cases e; omega)
  · have := hg2.size
    omega

end Go.Proofs.Qxb6000458a
