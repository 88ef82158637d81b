import Derived.Test.YbulkdekgOrderPlain
namespace Go.Proofs.Ybulkdekg
theorem bef_trans {a b c : Tn} (h1 : bef a b = true) (h2 : bef b c = true) (ha : 0 < a.wt) (hb : 0 < b.wt) (hc : 0 < c.wt) : bef a c = true := by
  cases e : bef a c with
  | true => rfl
  | false => rw [nbef_trans e (bef_asymm h2) ha hc hb] at h1; cases h1

/-- the linear scan: what is held after i nodes -/
def Scan (wt : Nat → Nat) (kk : Nat → Nat) (i : Nat) (best : Int) : Prop :=
  (best = -1 ∧ ∀ j, j < i → wt j = 0) ∨ ∃ b : Nat, best = b ∧ isBest wt i kk b

theorem scan_zero (wt : Nat → Nat) (kk : Nat → Nat) : Scan wt kk 0 (-1) := .inl ⟨rfl, fun j h => by omega⟩
theorem isBest_skip {wt : Nat → Nat} {kk : Nat → Nat} {i b : Nat} (h : isBest wt i kk b) (hz : wt i = 0) : isBest wt (i + 1) kk b := by
  obtain ⟨h1, h2, h3⟩ := h
  refine ⟨by omega, h2, fun j hj hp hne => ?_⟩
  by_cases e : j = i
  · subst e; omega
  · exact h3 j (by omega) hp hne
theorem scan_skip {wt : Nat → Nat} {kk : Nat → Nat} {i : Nat} {best : Int} (h : Scan wt kk i best) (hz : wt i = 0) : Scan wt kk (i + 1) best := by
  rcases h with ⟨h1, h2⟩ | ⟨b, h1, h2⟩
  · refine .inl ⟨h1, fun j hj => ?_⟩
    by_cases e : j = i
    · subst e; exact hz
    · exact h2 j (by omega)
  · exact .inr ⟨b, h1, isBest_skip h2 hz⟩
theorem isBest_first {wt : Nat → Nat} {kk : Nat → Nat} {i : Nat} (h : ∀ j, j < i → wt j = 0) (hz : 0 < wt i) : isBest wt (i + 1) kk i :=
  ⟨by omega, hz, fun j hj hp hne => by have := h j (by omega); omega⟩
theorem isBest_new {wt : Nat → Nat} {kk : Nat → Nat} {i b : Nat} (h : isBest wt i kk b) (hz : 0 < wt i) (hlt : (2 * kk i - 1) * wt b < (2 * kk b - 1) * wt i) : isBest wt (i + 1) kk i := by
  obtain ⟨h1, h2, h3⟩ := h
  have q : bef ⟨i, kk i, wt i⟩ ⟨b, kk b, wt b⟩ = true := bef_true.2 (.inl hlt)
  refine ⟨by omega, hz, fun j hj hp hne => ?_⟩
  by_cases e : j = b
  · subst e; exact q
  · exact bef_trans q (h3 j (by omega) hp e) hz h2 hp
theorem isBest_old {wt : Nat → Nat} {kk : Nat → Nat} {i b : Nat} (h : isBest wt i kk b) (hge : ¬ (2 * kk i - 1) * wt b < (2 * kk b - 1) * wt i) : isBest wt (i + 1) kk b := by
  obtain ⟨h1, h2, h3⟩ := h
  refine ⟨by omega, h2, fun j hj hp hne => ?_⟩
  by_cases e : j = i
  · subst e
    refine bef_true.2 ?_
    simp only
    by_cases q : (2 * kk b - 1) * wt j = (2 * kk j - 1) * wt b
    · exact .inr ⟨q, h1⟩
    · exact .inl (by omega)
  · exact h3 j (by omega) hp hne
theorem per_some {ws : List Nat} {L n t : Nat} (h : t < perAt ws L n) (hn : ∀ j, j < n → wtOf ws j = 0) : False := by
  have : sumTo (wtG ws) n = 0 := by
    rw [sumTo_congr (g := fun _ => 0), sumTo_zero]
    intro i hi
    have := hn i hi
    unfold wtOf at this
    unfold wtG
    rw [this]; simp
  unfold perAt at h
  omega
theorem wtOf_at {ws : List Nat} {i x : Nat} (h : ws[i]? = some x) : wtOf ws i = x := by unfold wtOf; rw [List.getD_eq_getElem?_getD, h]; rfl
def kkRow (n : Nat) (l : List Nat) : List Int := (List.range n).map fun i => (kAt l i : Int)
theorem kkRow_at {n i : Nat} (l : List Nat) (h : i < n) : (kkRow n l)[i]? = some (kAt l i : Int) := by simp [kkRow, h]
theorem kkRow_set {n v : Nat} (l : List Nat) : (kkRow n l).set v ((kAt l v : Int) + 1) = kkRow n (l ++ [v]) := by
  apply List.ext_getElem
  · simp [kkRow]
  · intro i h1 h2
    rw [List.getElem_set]
    by_cases e : v = i
    · subst e; simp [kkRow, kAt]; omega
    · simp [kkRow, kAt, e]
def oneRow (n k : Nat) : List Int := List.replicate k 1 ++ List.replicate (n - k) 0
theorem oneRow_set {n k : Nat} (h : k < n) : (oneRow n k).set k 1 = oneRow n (k + 1) := by
  obtain ⟨r, hr⟩ : ∃ r, n - k = r + 1 := ⟨n - k - 1, by omega⟩
  have e : n - (k + 1) = r := by omega
  unfold oneRow
  rw [hr, e, List.replicate_succ, List.set_append_right _ _ (by simp)]
  simp [List.replicate_succ']
theorem oneRow_at {n k : Nat} (h : k < n) : (oneRow n k)[k]? = some 0 := by
  unfold oneRow
  rw [List.getElem?_append_right (by simp), List.length_replicate, Nat.sub_self, List.getElem?_replicate, if_pos (by omega)]
theorem oneRow_all (n : Nat) : oneRow n n = kkRow n [] := by
  apply List.ext_getElem
  · simp [oneRow, kkRow]
  · intro i h1 h2; simp [oneRow, kkRow, kAt]
theorem cross_small {k v : Nat} (hk : k ≤ 65536) (hv : v < 256) : (2 * k - 1) * v < 4294967296 := by
  have : (2 * k - 1) * v ≤ 131072 * 256 := Nat.mul_le_mul (by omega) (by omega)
  omega
end Go.Proofs.Ybulkdekg
