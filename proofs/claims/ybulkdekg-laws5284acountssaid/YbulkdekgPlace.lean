import Derived.Test.YbulkdekgOwners
namespace Go.Proofs.Ybulkdekg
open Go.RowKit Go.ChangeShapes

def pickS (ss : List ByteArray) (h : Nat) : ByteArray := if ss.length = 0 then ⟨#[]⟩ else ss.getD (h % ss.length) ⟨#[]⟩
def fnvN (us : List Nat) : Nat := (fnv us).toNat
theorem fnv_bd (us : List Nat) : 0 ≤ fnv us ∧ fnv us < 18446744073709551616 := by
  have key : ∀ (l : List Nat) (x : Int), 0 ≤ x ∧ x < 18446744073709551616 → 0 ≤ l.foldl fstep x ∧ l.foldl fstep x < 18446744073709551616 := by
    intro l
    induction l with
    | nil => intro x h; exact h
    | cons a l ih =>
      intro x h
      rw [List.foldl_cons]
      refine ih _ ?_
      unfold fstep
      rw [IntKind.wrap_u64]
      omega
  exact key us _ (by omega)
theorem fnvN_cast (us : List Nat) : fnv us = (fnvN us : Int) := by have := fnv_bd us; unfold fnvN; omega

set_option maxHeartbeats 400000 in
theorem pick13 (ob n h : Nat) (ss : List ByteArray) (w : World) (hs : SAt w ob ss) (hl : ss.length = n) (hn : n ≤ 1024) (hh : h < 18446744073709551616) :
    Calls Yba.prog 13 #[.slice (some ⟨ob, 0, none⟩) n n, .int .u64 h] w fun e w' => e = .returned (.string (pickS ss h)) ∧ w' = w := by
  have HL : Hid (ss.length = n) := hl
  clear hl
  by_cases h0 : n = 0
  · have e : pickS ss h = ⟨#[]⟩ := by unfold pickS; rw [HL.out, if_pos h0]
    rw [e]
    subst h0
    clear e
    go_enter Yba.func13, Yba.ntmps13
    go_wp2
    go_ret
    exact ⟨rfl, rfl⟩
  · have hm : h % n < n := Nat.mod_lt _ (by omega)
    obtain ⟨x, hx⟩ : ∃ x, ss[h % n]? = some x := ⟨_, List.getElem?_eq_getElem (by rw [HL.out]; exact hm)⟩
    have e : pickS ss h = x := by unfold pickS; rw [HL.out, if_neg h0, List.getD_eq_getElem?_getD, hx]; rfl
    rw [e]
    have hc := hs.cell hx
    have hz : ((n : Int) == 0) = false := by rw [beq_eq_false_iff_ne]; omega
    have hn1 : 1 ≤ n := by omega
    obtain ⟨r, hr⟩ : ∃ r, r = h % n := ⟨_, rfl⟩
    have hri : (h : Int) % (n : Int) = (r : Int) := by rw [hr]; omega
    rw [← hr] at hc hm
    clear e hx h0 hr
    go_enter Yba.func13, Yba.ntmps13
    go_wp2
    go_ret
    exact ⟨rfl, rfl⟩

/-- a stand-in placement in memory -/
structure PlaceAt (w : World) (base pb ob n : Nat) (ss : List ByteArray) (lv : Value) (m : Nat) : Prop where
  blk : w.heap[pb]? = some (.cells #[.slice (some ⟨ob, 0, none⟩) n n, lv] 29 (0, 0))
  own : ∃ xs, w.ownsRow base 36 1 lv m xs
  row : SAt w ob ss
  len : ss.length = n
  pbl : pb < base
  obl : ob < base
  ne : ob ≠ pb

theorem SAt.of_block {w w' : World} {b : Nat} {ss : List ByteArray} (h : SAt w b ss) (e : w'.heap[b]? = w.heap[b]?) : SAt w' b ss := e.trans h

theorem old_block {w w1 : World} {o : Obj} {row : Option Nat} (hg : (w.alloc o).grownBy w1 row) {k : Nat} (hk : k < w.heap.size) (hne : some k ≠ row) : w1.heap[k]? = w.heap[k]? :=
  (hg.block k (by simp; omega) hne).trans (Below.heap_alloc _ _ _ hk)
theorem place_cells {w : World} {pb : Nat} {v0 v1 : Value} (h : w.heap[pb]? = some (.cells #[v0, v1] 29 (0, 0))) :
    w.cell? ⟨pb, 0, none⟩ = some v0 ∧ w.cell? ⟨pb, 1, none⟩ = some v1 ∧ ∀ o, w.frozen? ⟨pb, o, none⟩ = false := by
  refine ⟨?_, ?_, ?_⟩
  · rw [cell_of_row w pb _ _ 29 (0, 0) h]; rfl
  · rw [cell_of_row w pb _ _ 29 (0, 0) h]; rfl
  · intro o
    simp only [World.frozen?]
    rw [h]
    simp

/-- nothing but the place and its log has turned -/
structure Turned (w w' : World) (pb : Nat) (lv : Value) : Prop where
  os : w'.os = w.os
  tape : w'.tape = w.tape
  output : w'.output = w.output
  size : w.heap.size ≤ w'.heap.size
  block : ∀ k, k < w.heap.size → k ≠ pb → some k ≠ lv.ownBlock → w'.heap[k]? = w.heap[k]?

set_option maxHeartbeats 1000000 in
theorem owner49 (base pb ob n m h : Nat) (ss : List ByteArray) (lv : Value) (w : World) (hp : PlaceAt w base pb ob n ss lv m) (hbase : base ≤ w.heap.size) (hn : n ≤ 1024) (hm : m ≤ 65536) (hh : h < 18446744073709551616) :
    Calls Yba.prog 49 #[.pointer (some ⟨pb, 0, none⟩), .int .u64 h] w fun e w' => e = .returned (.string (pickS ss h)) ∧ ∃ g cap, PlaceAt w' base pb ob n ss (.slice (some ⟨g, 0, none⟩) (m + 1) cap) (m + 1) ∧ (lv.ownBlock = some g ∨ w.heap.size ≤ g) ∧ Turned w w' pb lv := by
  obtain ⟨i36, ji, jz0, jz1, jz2⟩ := info_parts Yba.info36
  obtain ⟨c0, c1, fz⟩ := place_cells hp.blk
  obtain ⟨xs, hown⟩ := hp.own
  have hpb := hp.pbl
  have hob := hp.obl
  have hne := hp.ne
  have hlv : ∃ a' l' c', lv = .slice a' l' c' := by
    rcases hown.2 with ⟨e, _⟩ | ⟨g, cap, cur, e, _⟩
    · exact ⟨_, _, _, e⟩
    · exact ⟨_, _, _, e⟩
  obtain ⟨a', l', c', hlve⟩ := hlv
  subst hlve
  have hol : ∀ k, (Value.slice a' l' c').ownBlock = some k → base ≤ k := fun k hk => (hown.lt k hk).1
  go_enter Yba.func49, Yba.ntmps49
  go_wp2_with (at_builtin; refine wpList_append_lies _ rfl (.tmp 9) (.tmp 11) 27 rfl base 36 i36 _ 1 8 Yba.underlying27 ji jz0 jz1 jz2 rfl (by decide) (.slice a' l' c') m xs rfl (hown.alloc _) ⟨w.heap.size, 0, none⟩ 1 1 [.int .u64 h] rfl rfl (one_new _ _ _) (one_one _ rfl) (by decide) (by unfold maxLen; omega) (by omega) (by simp; omega) (w.heap.size + 1) (by simp) ?_; intro g cap w1 hown1 hgrow hat hlt; have hp1 := old_block hgrow (k := pb) (by omega) (fun e => by have := hol pb e.symm; omega); obtain ⟨e0, e1, ez⟩ := place_cells (hp1.trans hp.blk))
  have ho1 := old_block hgrow (k := ob) (by omega) (fun e => by have := hol ob e.symm; omega)
  have hgb : base ≤ g := (hown1.lt g rfl).1
  refine (pick13 ob n h ss _ (hp.row.of_block ?_) hp.len hn hh).mono ?_
  · rw [heap_setCell_other _ _ _ _ (by exact hne)]; exact ho1
  rintro e w2 ⟨rfl, rfl⟩
  go_wp2
  go_ret
  refine ⟨rfl, g, cap, ⟨?_, ⟨_, ownsRow_setCell_other hown1 (by simp [Value.ownBlock]; omega) _⟩, ?_, hp.len, hpb, hob, hne⟩, ?_, ?_⟩
  · have := heap_setCell_same w1 pb 1 _ 29 (.slice (some ⟨g, 0, none⟩) (m + 1) cap) (hp1.trans hp.blk)
    rw [this]; rfl
  · refine hp.row.of_block ?_
    rw [heap_setCell_other _ _ _ _ (by exact hne)]; exact ho1
  · rcases hat with hat | hat
    · exact .inl hat
    · exact .inr (by omega)
  · refine ⟨hgrow.os, hgrow.tape, hgrow.output, ?_, fun k hk hkp hkl => ?_⟩
    · have := hgrow.size; simp at this; simp [World.setCell]; omega
    · rw [heap_setCell_other _ _ _ _ (by exact hkp)]
      exact old_block hgrow hk hkl
end Go.Proofs.Ybulkdekg
