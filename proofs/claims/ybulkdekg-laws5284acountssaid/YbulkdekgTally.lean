import Derived.Test.YbulkdekgCount
namespace Go.Proofs.Ybulkdekg
open Go.RowKit Go.ChangeShapes Go.Maps

/-! ### plain facts on the tally -/
theorem isIn_dist (x : Pr) : ∀ (l acc : List Pr), isIn x (l.foldl addM acc) = (isIn x acc || isIn x l)
  | [], acc => by simp [isIn]
  | a :: l, acc => by
    rw [List.foldl_cons, isIn_dist x l, isIn_addM]
    simp [isIn, Bool.or_assoc]
theorem cnt_zero {x : Pr} {l : List Pr} (h : isIn x l = false) : cnt x l = 0 := by
  unfold cnt
  rw [List.length_eq_zero_iff, List.filter_eq_nil_iff]
  intro y hy
  unfold isIn at h
  rw [List.any_eq_false] at h
  exact h y hy
theorem isIn_iff {x : Pr} {l : List Pr} : isIn x l = true ↔ x ∈ l := by
  unfold isIn
  rw [List.any_eq_true]
  constructor
  · rintro ⟨y, hy, e⟩; simp at e; subst e; exact hy
  · intro h; exact ⟨x, h, by simp⟩
theorem nodup_fold : ∀ (l acc : List Pr), acc.Nodup → (l.foldl addM acc).Nodup
  | [], acc, h => h
  | a :: l, acc, h => by
    rw [List.foldl_cons]
    refine nodup_fold l _ ?_
    unfold addM
    split
    · exact h
    · rename_i hn
      rw [List.nodup_append]
      refine ⟨h, by simp, fun y hy z hz e => ?_⟩
      simp at hz
      subst hz
      subst e
      exact hn (isIn_iff.2 hy)
theorem nodup_dist (l : List Pr) : (dist l).Nodup := nodup_fold l [] List.nodup_nil

theorem fold_le : ∀ (l acc : List Pr), (l.foldl addM acc).length ≤ acc.length + l.length
  | [], acc => by simp
  | a :: l, acc => by
    rw [List.foldl_cons]
    have h1 := fold_le l (addM acc a)
    have h2 : (addM acc a).length ≤ acc.length + 1 := by unfold addM; split <;> simp
    simp only [List.length_cons]
    omega
theorem dist_le (l : List Pr) : (dist l).length ≤ l.length := by have := fold_le l []; simpa [dist] using this

def pcells (M : List Pr) : List Value := M.flatMap fun x => [.string x.1, .string x.2]
def ccells (mv M : List Pr) : List Value := M.map fun y => .int .i64 (cnt y mv)
theorem pcells_len (M : List Pr) : (pcells M).length = M.length * 2 := by
  induction M with
  | nil => rfl
  | cons a M ih => show ([Value.string a.1, .string a.2] ++ pcells M).length = _; simp [ih]; omega
theorem pcells_at : ∀ (M : List Pr) (i : Nat) (x : Pr), M[i]? = some x → (pcells M)[i * 2]? = some (.string x.1) ∧ (pcells M)[i * 2 + 1]? = some (.string x.2)
  | [], i, x, h => by simp at h
  | a :: M, 0, x, h => by simp at h; subst h; exact ⟨rfl, rfl⟩
  | a :: M, i + 1, x, h => by
    have := pcells_at M i x (by simpa using h)
    have e : (i + 1) * 2 = i * 2 + 2 := by omega
    rw [e]
    exact this
theorem pcells_snoc (M : List Pr) (x : Pr) : pcells (M ++ [x]) = pcells M ++ [.string x.1, .string x.2] := by simp [pcells]
theorem ccells_at {mv M : List Pr} {i : Nat} {x : Pr} (h : M[i]? = some x) : (ccells mv M)[i]? = some (.int .i64 (cnt x mv)) := by simp [ccells, h]
theorem ccells_found {mv M : List Pr} {i : Nat} {x : Pr} (h : M[i]? = some x) (hn : M.Nodup) : (ccells mv M).set i (.int .i64 ((cnt x mv : Int) + 1)) = ccells (mv ++ [x]) M := by
  apply List.ext_getElem?
  intro j
  by_cases e : i = j
  · subst e
    have hlt := (List.getElem?_eq_some_iff.1 h).1
    rw [List.getElem?_set_self (by simpa [ccells] using hlt), ccells_at h, cnt_snoc_same]
    simp
  · rw [List.getElem?_set_ne e]
    cases hj : M[j]? with
    | none => simp [ccells, hj]
    | some y =>
      have hne : x ≠ y := by
        intro q
        subst q
        have h1 := (List.getElem?_eq_some_iff.1 h).1
        have h2 := (List.getElem?_eq_some_iff.1 hj).1
        have e1 := (List.getElem?_eq_some_iff.1 h).2
        have e2 := (List.getElem?_eq_some_iff.1 hj).2
        rcases Nat.lt_or_gt_of_ne e with hl | hl
        · exact List.pairwise_iff_getElem.1 hn i j h1 h2 hl (by rw [e1, e2])
        · exact List.pairwise_iff_getElem.1 hn j i h2 h1 hl (by rw [e1, e2])
      rw [ccells_at hj, ccells_at hj, cnt_snoc_other hne]
theorem ccells_new {mv : List Pr} {x : Pr} (h : isIn x (dist mv) = false) : ccells mv (dist mv) ++ [.int .i64 1] = ccells (mv ++ [x]) (dist mv ++ [x]) := by
  have h0 : isIn x mv = false := by
    have := isIn_dist x mv []
    unfold dist at h
    rw [h] at this
    simpa [isIn] using this.symm
  unfold ccells
  rw [List.map_append]
  congr 1
  · apply List.map_congr_left
    intro y hy
    have : x ≠ y := fun e => by subst e; rw [isIn_iff.2 hy] at h; cases h
    rw [cnt_snoc_other this]
  · simp [cnt_snoc_same, cnt_zero h0]
theorem dist_found {mv : List Pr} {x : Pr} (h : isIn x (dist mv) = true) : dist (mv ++ [x]) = dist mv := by rw [dist_snoc]; simp [addM, h]
theorem dist_new {mv : List Pr} {x : Pr} (h : isIn x (dist mv) = false) : dist (mv ++ [x]) = dist mv ++ [x] := by rw [dist_snoc]; simp [addM, h]

/-! ### two rows of different element types lie apart -/
theorem owns_apart {w : World} {b1 b2 s1 s2 n1 n2 : Nat} {e1 e2 : TypeId} {v1 v2 : Value} {xs1 xs2 : List Value} (h1 : w.ownsRow b1 e1 s1 v1 n1 xs1) (h2 : w.ownsRow b2 e2 s2 v2 n2 xs2) (hne : e1 ≠ e2) : ∀ g, v1.ownBlock = some g → v2.ownBlock ≠ some g := by
  intro g hg1 hg2
  rcases h1.2 with ⟨rfl, _⟩ | ⟨g1, c1, cur1, rfl, _, hh1, _⟩
  · simp [Value.ownBlock] at hg1
  · rcases h2.2 with ⟨rfl, _⟩ | ⟨g2, c2, cur2, rfl, _, hh2, _⟩
    · simp [Value.ownBlock] at hg2
    · simp [Value.ownBlock] at hg1 hg2
      subst hg1 hg2
      rw [hh1] at hh2
      simp at hh2
      exact hne hh2.2
theorem own_shape {w : World} {b s n : Nat} {e : TypeId} {v : Value} {xs : List Value} (h : w.ownsRow b e s v n xs) : ∃ a c, v = .slice a n c ∧ (0 < n → ∃ g, a = some ⟨g, 0, none⟩) := by
  rcases h.2 with ⟨rfl, hn⟩ | ⟨g, c, cur, rfl, _⟩
  · exact ⟨none, 0, by rw [hn], fun h => by omega⟩
  · exact ⟨_, c, rfl, fun _ => ⟨g, rfl⟩⟩

theorem own_free {w : World} {b s n g c : Nat} {e : TypeId} {xs : List Value} (h : w.ownsRow b e s (.slice (some ⟨g, 0, none⟩) n c) n xs) (o : Nat) : w.frozen? ⟨g, o, none⟩ = false := by
  rcases h.2 with ⟨h', _⟩ | ⟨g', cap', cur, h', _, hg, _⟩
  · simp at h'
  · simp only [Value.slice.injEq, Option.some.injEq, Addr.mk.injEq, and_true, true_and] at h'
    obtain ⟨rfl, rfl⟩ := h'
    simp only [World.frozen?]
    rw [hg]
    simp
theorem own_set {w : World} {b n g c : Nat} {e : TypeId} {xs : List Value} (h : w.ownsRow b e 1 (.slice (some ⟨g, 0, none⟩) n c) n xs) (i : Nat) (v : Value) : (w.setCell ⟨g, i, none⟩ v).ownsRow b e 1 (.slice (some ⟨g, 0, none⟩) n c) n (xs.set i v) := by
  refine ⟨by simpa using h.1, ?_⟩
  rcases h.2 with ⟨h', _⟩ | ⟨g', cap', cur, h', hb, hg, h1, h2, h3, htake⟩
  · simp at h'
  · simp only [Value.slice.injEq, Option.some.injEq, Addr.mk.injEq, and_true, true_and] at h'
    obtain ⟨rfl, rfl⟩ := h'
    refine .inr ⟨g, c, cur.setIfInBounds i v, rfl, hb, heap_setCell_same w g i cur e v hg, h1, h2, by simpa using h3, ?_⟩
    rw [Array.toList_setIfInBounds, List.take_set, htake]

theorem two_new (w : World) (t : TypeId) (a b : Value) : ∀ j u, [a, b][j]? = some u → (w.alloc (.cells #[a, b] t)).cell? ((⟨w.heap.size, 0, none⟩ : Addr).add j) = some u := by
  intro j u h
  rw [Addr.add_lit, cell_of_row _ w.heap.size _ #[a, b] t (0, 0) (heap_alloc_new w _)]
  simpa using h
theorem two_one (a b : Value) (h1 : a.oneCell' = true) (h2 : b.oneCell' = true) : ∀ u ∈ [a, b], u.oneCell' = true := by
  intro u hu
  simp at hu
  rcases hu with rfl | rfl <;> assumption
theorem ne_own {v1 v2 : Value} (h : ∀ g, v1.ownBlock = some g → v2.ownBlock ≠ some g) : v1.ownBlock = none ∨ v1.ownBlock ≠ v2.ownBlock := by
  cases e : v1.ownBlock with
  | none => exact .inl rfl
  | some g => exact .inr fun q => h g e q.symm

theorem belDrews {B : Nat} {w w' : World} (h : Below B w w') (d : Nat) : Below B w (w'.drewN d) := h.trans ⟨rfl, rfl, rfl, Nat.le_refl _, fun _ _ => rfl⟩

theorem new10 (v0 v1 : Value) (w : World) (u0 u1 : Addr) (h0 : v0 = .iface 24 (.pointer (some u0))) (h1 : v1 = .iface 24 (.pointer (some u1))) : Calls Yba.prog 10 #[v0, v1] w fun e w' => e = .returned (.pointer (some ⟨w.heap.size, 0, none⟩)) ∧ w' = w.alloc (.cells #[v0, v1] 60) := by
  subst h0 h1
  go_enter Yba.func10, Yba.ntmps10
  go_wp2
  go_ret
  exact ⟨rfl, rfl⟩
end Go.Proofs.Ybulkdekg
